import PyProof.Rows.All
import Wide.All
import OpenK.AllK
import Wide.FinOn
import PySem.Challenge.RW_dm0204_03
open PySem PySem.W PyProof.Rows PySem.Calls
set_option Elab.async false
set_option maxRecDepth 100000
set_option maxHeartbeats 8000000
/- the plain side: what _strip_padding takes off, over lists of code points -/
namespace Mine

/-- how many blanks stand ahead -/
def lead (l : List Nat) : Nat := (l.takeWhile (· == 32)).length
def trail (l : List Nat) : Nat := lead l.reverse

theorem lead_le (l : List Nat) : lead l ≤ l.length := by
  unfold lead
  induction l with
  | nil => simp
  | cons a r ih => rw [List.takeWhile_cons]; split <;> simp <;> omega
theorem trail_le (l : List Nat) : trail l ≤ l.length := by
  have := lead_le l.reverse
  rw [List.length_reverse] at this
  exact this
theorem lead_blank {l : List Nat} {i : Nat} (h : i < lead l) : l[i]? = some 32 := by
  induction l generalizing i with
  | nil => simp [lead] at h
  | cons a r ih =>
    unfold lead at h
    rw [List.takeWhile_cons] at h
    split at h
    · rename_i ha
      cases i with
      | zero => simpa using ha
      | succ i => rw [List.getElem?_cons_succ]; exact ih (by simp at h; exact h)
    · simp at h
theorem lead_stop {l : List Nat} (h : lead l < l.length) : ∃ c, l[lead l]? = some c ∧ c ≠ 32 := by
  induction l with
  | nil => simp [lead] at h
  | cons a r ih =>
    unfold lead at h ⊢
    rw [List.takeWhile_cons] at h ⊢
    split at h
    · rename_i ha
      rw [if_pos ha]
      simp only [List.length_cons, Nat.add_lt_add_iff_right, List.getElem?_cons_succ] at h ⊢
      exact ih h
    · rename_i ha
      rw [if_neg ha]
      exact ⟨a, rfl, by simpa using ha⟩
theorem trail_blank {l : List Nat} {j : Nat} (h : j < trail l) : l[l.length - 1 - j]? = some 32 := by
  have h1 := lead_blank h
  have := trail_le l
  rw [List.getElem?_reverse (by omega)] at h1
  exact h1
theorem trail_stop {l : List Nat} (h : trail l < l.length) : ∃ c, l[l.length - 1 - trail l]? = some c ∧ c ≠ 32 := by
  obtain ⟨c, h1, h2⟩ := lead_stop (l := l.reverse) (by rw [List.length_reverse]; exact h)
  rw [List.getElem?_reverse (by exact h)] at h1
  exact ⟨c, h1, h2⟩
theorem lead_trail {l : List Nat} (h : lead l < l.length) : lead l + trail l < l.length := by
  obtain ⟨c, h1, h2⟩ := lead_stop h
  refine Nat.lt_of_not_le fun hc => h2 ?_
  have := trail_le l
  by_cases h3 : trail l = 0
  · omega
  have := trail_blank (l := l) (j := l.length - 1 - lead l) (by omega)
  rw [show l.length - 1 - (l.length - 1 - lead l) = lead l by omega, h1] at this
  exact Option.some.inj this

theorem take_blank {l : List Nat} {a : Nat} (h : a ≤ l.length) : l.take a = List.replicate a 32 ↔ a ≤ lead l := by
  constructor
  · intro e
    refine Nat.le_of_not_lt fun hc => ?_
    obtain ⟨c, h1, h2⟩ := lead_stop (l := l) (by omega)
    have : (l.take a)[lead l]? = some c := by rw [List.getElem?_take, if_pos hc]; exact h1
    rw [e, List.getElem?_replicate, if_pos hc] at this
    exact h2 (Option.some.inj this).symm
  · intro e
    apply List.ext_getElem?
    intro i
    rw [List.getElem?_take, List.getElem?_replicate]
    by_cases hi : i < a
    · rw [if_pos hi, if_pos hi, lead_blank (by omega)]
    · rw [if_neg hi, if_neg hi]
theorem drop_blank {l : List Nat} {b : Nat} (h : b ≤ l.length) : l.drop (l.length - b) = List.replicate b 32 ↔ b ≤ trail l := by
  unfold trail
  rw [← take_blank (l := l.reverse) (by rw [List.length_reverse]; exact h), List.take_reverse, ← List.reverse_inj, List.reverse_replicate]

/-- the bounds of what is left: none where an IndexError is raised -/
def stripB (l : List Nat) (n : Int) : Option (Nat × Nat) :=
  if lead l = l.length then
    if 0 ≤ n ∧ n ≤ l.length then some (n.toNat, l.length) else none
  else
    let a := if n < 0 then lead l else min (lead l) n.toNat
    let b := if n < 0 then trail l else min (trail l) (n.toNat - a)
    some (a, l.length - b)

end Mine
/- small helpers over the library's frames, ledgers and iterators -/
namespace Mine

theorem fr_stays {h₀ h h' : Heap} {L : Addr} {m : Str → Option Value} (F : Fr h₀ L h m) (k : ∀ b o, h.get? b = some o → h'.get? b = some o) : Fr h₀ L h' m :=
  ⟨F.ns.keeps k, fun b o e => k b o (F.keep b o e), F.above⟩
theorem news_stays {h₀ h h' : Heap} {L : Addr} {news : List (Addr × Obj)} (N : News h₀ L h news) (k : ∀ b o, h.get? b = some o → h'.get? b = some o) : News h₀ L h' news :=
  fun p hp => ⟨k _ _ (N p hp).1, (N p hp).2.1, (N p hp).2.2⟩
theorem news_add {h₀ h h' : Heap} {L D : Addr} {m : Str → Option Value} {o : Obj} {news : List (Addr × Obj)} (F : Fr h₀ L h m) (N : News h₀ L h' news) (hD : h'.get? D = some o) (hnew : h.get? D = none) :
    News h₀ L h' ((D, o) :: news) := by
  intro p hp
  rcases List.mem_cons.mp hp with rfl | hp
  · refine ⟨hD, ?_, ?_⟩
    · rintro rfl
      obtain ⟨oL, _, _, hL, _⟩ := F.ns
      rw [hnew] at hL; cases hL
    · cases e : h₀.get? D with
      | none => rfl
      | some o' => have := F.keep _ _ e; rw [hnew] at this; cases this
  · exact N p hp
theorem stays_but {h h₂ h' : Heap} {wr : List Addr} (k : ∀ b o, h.get? b = some o → h₂.get? b = some o) (hf : ∀ b ∈ wr, h.get? b = none)
    (hk : ∀ b o, b ∉ wr → h₂.get? b = some o → h'.get? b = some o) : ∀ b o, h.get? b = some o → h'.get? b = some o :=
  fun b o e => hk b o (fun hb => by rw [hf b hb] at e; cases e) (k b o e)
theorem fresh_size {h : Heap} {b : Addr} (hb : h.objs.size ≤ b) : h.get? b = none := by
  cases e : h.get? b with
  | none => rfl
  | some o => exact absurd (Heap.lt_size e) (Nat.not_lt.mpr hb)

theorem fresh_wr {h : Heap} : ∀ b ∈ [h.objs.size], h.get? b = none := fun b hb => by
  rcases List.mem_cons.mp hb with rfl | hb
  · exact fresh_size (Nat.le_refl _)
  · cases hb

/-- n blanks -/
def blanks (n : Nat) : Str := ⟨(List.replicate n 32).toArray⟩
theorem blanks_length (n : Nat) : (blanks n).length = n := by simp [blanks, Str.length]
theorem foldl_app_rep (x : Nat) : ∀ (n : Nat) (acc : Array Nat), ((List.replicate n #[x]).foldl (· ++ ·) acc) = acc ++ (List.replicate n x).toArray
  | 0, acc => by simp
  | n + 1, acc => by
    rw [List.replicate_succ, List.foldl_cons, foldl_app_rep x n, List.replicate_succ]
    apply Array.toList_inj.mp; simp
theorem mul_blanks {n : Int} (h : 0 ≤ n) : Txt.mul ⟨#[32]⟩ n = blanks n.toNat := by
  unfold Txt.mul
  split
  · have : n.toNat = 0 := by omega
    rw [this]; rfl
  · split
    · rename_i h1 h2
      have : n = 1 := by simpa [Str.length] using h2
      subst this; rfl
    · rw [foldl_app_rep]; simp [blanks]

section
variable {prog : Program} {w : World} {A : Around} {E : Value → Shared → Prop} {s : Shared}
theorem mul_blank {n : Int} {t u : Tok} {Q : Value → Shared → Prop} (h0 : 0 ≤ n) (h1 : n ≤ 1048576) (h : ∀ t' k, Q (.str (blanks n.toNat) t') { s with toks := k }) :
    wpAny (model prog w) A (binaryOp .Mult (.str (Str.ofString " ") t) (.int n u)) Q E s := by
  rw [show Str.ofString " " = (⟨#[32]⟩ : Str) from by decide +kernel]
  refine SB.mul ⟨?_, ?_, ?_⟩ (fun t' k => ?_)
  · simp only [Bool.or_eq_false_iff, decide_eq_false_iff_not]; omega
  · intro h2 _
    have h3 : ((⟨#[32]⟩ : Str).length : Int) = 1 := rfl
    rw [h3]
    have : (2 ^ 63 - 1) / n ≥ 1 := by
      rw [ge_iff_le, Int.le_ediv_iff_mul_le (by omega)]; omega
    omega
  · intro _ _
    have h3 : (⟨#[32]⟩ : Str).length = 1 := rfl
    rw [h3]
    unfold Builtin.Str.tooLong
    have hsl : sizeLine = 16777216 := rfl
    simp only [decide_eq_false_iff_not]
    omega
  · rw [mul_blanks h0]; exact h t' k

/-- the iterator of range(N) -/
theorem range_iter {N : Nat} {t : Tok} {Q : Value → Shared → Prop} (hN : (N : Int) < 2 ^ 62)
    (k : ∀ I h' tk, (∀ b o, s.heap.get? b = some o → h'.get? b = some o) → s.heap.get? I = none → I < h'.objs.size → IsRangeIter h' I (0 + ((0 : Nat) : Int) * 1) ((N : Int) - ((0 : Nat) : Int)) 1 → Q (.ref I) { s with heap := h', toks := tk }) :
    wpAny (model prog w) A (call (.type "range") [.int (N : Int) t]) (fun xv s₁ => wpAny (model prog w) A (pyIter xv) Q E s₁) E s := by
  refine call_range_1 (wpAny_pyIter_range (IsRange.new _ _ _ _ _ _ _) (small_one (by omega) (by omega) (by omega) hN) ?_)
  have e : Builtin.Range.rangeSize 0 (N : Int) 1 = N := by rw [rangeSize_one]; split <;> omega
  rw [e]
  refine k _ _ _ (fun b o e => Heap.get?_push_of_some _ (Heap.get?_push_of_some _ e)) (fresh_size (by rw [Heap.size_push]; exact Nat.le_succ _)) (by simp only [Heap.size_push]; exact Nat.lt_succ_self _) ?_
  have := Heap.get?_push_size (s.heap.push { cls := .type "range", data := .fields #[.int 0 s.toks, .int (N : Int) t, .int 1 (s.toks + 1)] }) (o := { cls := .type "range_iterator", data := .fields #[rawInt 0, rawInt (N : Int), rawInt 1] }) rfl
  simpa using this

theorem ints_of_range : ∀ {n : Nat} {vs : List Value} {a : Int}, vs.length = n → (∀ j v, vs[j]? = some v → ∃ t, v = Value.int (a + (j : Nat) * 1) t) → IntsAre vs ((List.range n).map fun (i : Nat) => a + (i : Int))
  | 0, [], _, _, _ => .nil
  | n + 1, v :: vs, a, hl, h => by
    obtain ⟨t, rfl⟩ := h 0 v rfl
    have r := ints_of_range (n := n) (vs := vs) (a := a + 1) (by simpa using hl) (fun j u hu => by
      obtain ⟨t, e⟩ := h (j + 1) u (by simpa using hu)
      refine ⟨t, e.trans ?_⟩
      congr 1
      omega)
    rw [List.range_succ_eq_map, List.map_cons, List.map_map]
    have e0 : a + ((0 : Nat) : Int) * 1 = a + ((0 : Nat) : Int) := by omega
    rw [e0]
    refine .cons _ t ?_
    have e : ((fun (i : Nat) => a + (i : Int)) ∘ Nat.succ) = fun (i : Nat) => a + 1 + (i : Int) := by funext i; simp; omega
    rw [e]
    exact r
theorem ints_filter {p : Value → Bool} {q : Int → Bool} (h : ∀ n t, p (Value.int n t) = q n) : ∀ {vs : List Value} {ns : List Int}, IntsAre vs ns → IntsAre (vs.filter p) (ns.filter q)
  | _, _, .nil => .nil
  | _, _, .cons n t r => by
    rw [List.filter_cons, List.filter_cons, h]
    cases q n with
    | true => simp only [if_true]; exact .cons n t (ints_filter h r)
    | false => simp only [Bool.false_eq_true, if_false]; exact ints_filter h r
theorem paired_eq : ∀ {l ys : List Value}, Paired (fun v y => y = v) l ys → ys = l
  | _, _, .nil => rfl
  | _, _, .cons h r => by rw [h, paired_eq r]

theorem walks_lt {I : Addr} {fp wr : List Addr} {n : Nat} {P : Nat → Value → Prop} {St : Nat → Heap → Prop} (W : Walks prog w A I fp wr n P St) : Walks prog w A I fp wr n (fun i v => i < n ∧ P i v) St where
  sub := W.sub
  frame := W.frame
  item := fun i s Q E hi st hQ => W.item i s Q E hi st fun v h' tk hP => hQ v h' tk ⟨hi, hP⟩
  done := W.done
  self := W.self

/-- all that stood still stands -/
theorem kept_stays (h : Heap) : KeptH (fun h' => ∀ b o, h.get? b = some o → h'.get? b = some o) := fun _ ob a b o e => Heap.get?_push_of_some ob (a b o e)
theorem slice_ns_stays {value slice : Expr} {x : Str} {t : Tok} {j : Int} {uj : Tok} {Q : Value → Shared → Prop}
    (h : ∀ h' t' k, (∀ b o, s.heap.get? b = some o → h'.get? b = some o) → Q (.str (Txt.slice x none (some j)) t') { s with heap := h', toks := k }) (hsz : x.length ≤ sizeLine)
    (hs : subscripted slice false (.str x t) (.ref s.heap.objs.size) = operate [.ref s.heap.objs.size, .str x t] (getItem (.str x t) (.ref s.heap.objs.size)) := by with_unfolding_all rfl)
    (ht : ∀ r, letTemporaryGo value (.str x t) r = pure () := by intro _; with_unfolding_all rfl) :
    wpAny (model prog w) A (subscriptTail value slice (.str x t) (.ref s.heap.objs.size)) Q E { s with heap := s.heap.push { cls := .type "slice", data := .fields #[.none, .int j uj, .none] } } :=
  tail_of_ItemOn (SBH.sliceItem_ns (kept_stays s.heap) (fun _ _ e => e) h hsz) hs ht
theorem slice_sn_stays {value slice : Expr} {x : Str} {t : Tok} {i : Int} {ui : Tok} {Q : Value → Shared → Prop}
    (h : ∀ h' t' k, (∀ b o, s.heap.get? b = some o → h'.get? b = some o) → Q (.str (Txt.slice x (some i) none) t') { s with heap := h', toks := k }) (hsz : x.length ≤ sizeLine)
    (hs : subscripted slice false (.str x t) (.ref s.heap.objs.size) = operate [.ref s.heap.objs.size, .str x t] (getItem (.str x t) (.ref s.heap.objs.size)) := by with_unfolding_all rfl)
    (ht : ∀ r, letTemporaryGo value (.str x t) r = pure () := by intro _; with_unfolding_all rfl) :
    wpAny (model prog w) A (subscriptTail value slice (.str x t) (.ref s.heap.objs.size)) Q E { s with heap := s.heap.push { cls := .type "slice", data := .fields #[.int i ui, .none, .none] } } :=
  tail_of_ItemOn (SBH.sliceItem_sn (kept_stays s.heap) (fun _ _ e => e) h hsz) hs ht
theorem slice_ss_stays {value slice : Expr} {x : Str} {t : Tok} {i j : Int} {ui uj : Tok} {Q : Value → Shared → Prop}
    (h : ∀ h' t' k, (∀ b o, s.heap.get? b = some o → h'.get? b = some o) → Q (.str (Txt.slice x (some i) (some j)) t') { s with heap := h', toks := k }) (hsz : x.length ≤ sizeLine)
    (hs : subscripted slice false (.str x t) (.ref s.heap.objs.size) = operate [.ref s.heap.objs.size, .str x t] (getItem (.str x t) (.ref s.heap.objs.size)) := by with_unfolding_all rfl)
    (ht : ∀ r, letTemporaryGo value (.str x t) r = pure () := by intro _; with_unfolding_all rfl) :
    wpAny (model prog w) A (subscriptTail value slice (.str x t) (.ref s.heap.objs.size)) Q E { s with heap := s.heap.push { cls := .type "slice", data := .fields #[.int i ui, .int j uj, .none] } } :=
  tail_of_ItemOn (SBH.sliceItem_ss (kept_stays s.heap) (fun _ _ e => e) h hsz) hs ht
theorem in_one {P : Addr → Prop} {I : Addr} (h : P I) : ∀ b ∈ [I], P b := fun b hb => by
  rcases List.mem_cons.mp hb with rfl | hb
  · exact h
  · cases hb
end
end Mine
/- segments of a generator function: if, for -/
namespace Mine
section
variable {M : Model} {A : Around} {R : GenEnd} {Y : Protocol} {n : Nat} {s₀ : Shared} {c : Code} {fs : List Frame} {s : Shared} {env : Env}
  {K : Flow → Sem Fin} {H : Value → Sem Fin} {gd : Bool → Bool} {lv : List Value → List Value}

theorem seg_If {test : Expr} {body orelse : List Stmt} {pos : Pos}
    (h : wpAny M (A.over c fs) (isTrue test env (eval test env)) (fun b s' => if b = true then Seg M A R Y n s₀ c ((execs body env).wrap K H gd lv) fs s' else Seg M A R Y n s₀ c ((execs orelse env).wrap K H gd lv) fs s')
      (fun x s' => Seg M A R Y n s₀ c (H x) fs s') s) :
    Seg M A R Y n s₀ c ((exec (.If test body orelse pos) env).wrap K H gd lv) fs s := by
  rw [exec_If]
  refine seg_bind_wrap (wpAny_standAt (seg_bind_wrap (wpAny_mono h (fun b s' hb => ?_) fun _ _ z => z)))
  cases b with
  | true => simpa using hb
  | false => simpa using hb

theorem seg_For {target iter : Expr} {body orelse : List Stmt} {pos : Pos} (hset : ∀ x, foldedSetIterable iter env x = pure x)
    (h : wpAny M (A.over c fs) (eval iter env) (fun x s₁ => wpAny M (A.over c fs) (pyIter x) (fun it s₂ => ∀ p, Seg M A R Y n s₀ (.forLoop target it body orelse env) (M.den (.forLoop target it body orelse env))
      (.ret (fun r => ((match r with | .ok f => (.pure f : Sem Flow) | .error e => .raise e).onRaise fun (x : Value) => do
        if (← field x 1) == Value.none then unsupported "frame.own-activation:exception-without-traceback"
        setFlight x env.frame).wrap K H gd lv) none (gd false) (lv []) c p [] :: fs) s₂)
      (fun x s' => Seg M A R Y n s₀ c (H x) fs s') s₁) (fun x s' => Seg M A R Y n s₀ c (H x) fs s') s) :
    Seg M A R Y n s₀ c ((exec (.For target iter body orelse pos) env).wrap K H gd lv) fs s := by
  rw [exec_For]
  refine seg_bind_wrap (wpAny_standAt (seg_bind_wrap (wpAny_mono h (fun x s₁ h₁ => ?_) fun _ _ z => z)))
  refine seg_bind_wrap (wpAny_of_eq (hset x) ?_)
  refine seg_bind_wrap (wpAny_standAt (seg_bind_wrap (wpAny_holding (wpAny_mono h₁ (fun it s₂ h₂ => ?_) fun _ _ z => z))))
  exact seg_call h₂
end

section
variable {prog : Program} {w : World} {A : Around} {R : GenEnd} {Y : Protocol} {n : Nat} {s₀ : Shared} {fs : List Frame} {s : Shared} {env : Env}

/-- a turn of a for loop whose body may yield -/
theorem seg_forLoop {x : Str} {px : Pos} {it : Value} {body : List Stmt}
    (h : wpAny (model prog w) (A.over (.forLoop (.Name x px) it body [] env) fs) (pyNext it) (fun r s' => match r with
        | none => Seg (model prog w) A R Y n s₀ (.block [] env) ((model prog w).den (.block [] env)) fs s'
        | some v => wpAny (model prog w) (A.over (.forLoop (.Name x px) it body [] env) fs) (storeName env x v) (fun _ s₂ =>
          Seg (model prog w) A R Y n s₀ (.forLoop (.Name x px) it body [] env) ((execs body env).wrap (fun f => match f with
            | .next | .cont => .pure (.again (.forLoop (.Name x px) it body [] env))
            | .brk => .pure (.done .next)
            | .ret v => .pure (.done (.ret v))) (fun e => (do noteFrame e env; theTreesLotGoes e : Sem Unit).wrap (fun _ => .raise e) .raise id id) id id) fs s₂)
          (fun _ _ => False) s') (fun _ _ => False) s) :
    Seg (model prog w) A R Y n s₀ (.forLoop (.Name x px) it body [] env) ((model prog w).den (.forLoop (.Name x px) it body [] env)) fs s := by
  show Seg _ A R Y n s₀ _ ((forTurn (.Name x px) it body [] env).onRaise (fun x => do noteFrame x env; theTreesLotGoes x)) fs s
  unfold forTurn
  rw [Sem.onRaise_eq_wrap]
  refine seg_bind_wrap (wpAny_standAt ?_)
  refine seg_bind_wrap (wpAny_onRaise (wpAny_mono h (fun r s' hr => ?_) fun _ _ z => z.elim))
  cases r with
  | none => exact seg_again rfl hr
  | some v =>
    refine seg_bind_wrap (wpAny_of_eq (rfl : letOwnedTupleGo (.Name x px) it v = pure ()) ?_)
    refine seg_bind_wrap (wpAny_assign_Name (wpAny_mono hr (fun _ s₂ h₂ => ?_) fun _ _ z => z.elim))
    rw [Sem.bind_eq_wrap', Sem.wrap_wrap]
    rw [Sem.wrap_congr (execs body env) _ _ (K' := fun f => match f with
            | .next | .cont => .pure (.again (.forLoop (.Name x px) it body [] env))
            | .brk => .pure (.done .next)
            | .ret v => .pure (.done (.ret v))) (H' := (fun e => (do noteFrame e env; theTreesLotGoes e : Sem Unit).wrap (fun _ => .raise e) .raise id id))
        (fun f => by cases f <;> rfl)
        (fun e => by first | exact Sem.bind_eq_wrap _ _ | (show (do noteFrame e env; theTreesLotGoes e : Sem Unit).bind (fun _ => .raise e) = _; rw [Sem.bind_eq_wrap]))]
    exact h₂
end
end Mine
namespace Mine
set_option maxRecDepth 100000 in
set_option maxHeartbeats 8000000 in
open_top hd03 for PySem.Challenge.rw_dm0204_03
end Mine
/- the generator _grouping_intervals -/
namespace Mine

def fnBody (p : Program) (i : Nat) : List Stmt := match p.main.body[i]? with
  | some (.FunctionDef _ _ b _ _ _ _ _ _ _) => b
  | _ => []
def fnScope (p : Program) (i : Nat) : Scope := match p.main.body[i]? with
  | some (.FunctionDef _ _ _ _ _ _ s _ _ _) => s
  | _ => default
def gB : List Stmt := fnBody PySem.Challenge.pw_dm0204_03 2
def gS : Scope := fnScope PySem.Challenge.pw_dm0204_03 2
def forB : List Stmt := match gB.drop 1 with | .For _ _ b _ _ :: _ => b | _ => []
def forP : Pos := match gB.drop 1 with | .For (.Name _ p) _ _ _ _ :: _ => p | _ => default
def whB : List Stmt := match forB.drop 1 with | .If _ (_ :: .While _ b _ _ :: _) _ _ :: _ => b | _ => []
def whT : Expr := match forB.drop 1 with | .If _ (_ :: .While t _ _ _ :: _) _ _ :: _ => t | _ => default
abbrev gE (C f : Addr) (cd : Value) : Env := envOf "_grouping_intervals" gS C f cd

/-- what the generator tells: the j-th interval -/
def tell : List Int → Option Int → Nat → Option Int
  | [], _, _ => none
  | x :: r, last, j => if x = 127 then none else if x = 0 then last else match j with
    | 0 => some x
    | j + 1 => tell r (some x) j

/-- an iterator of a list -/
def LI (o : Obj) : Prop := o.cls = .type "list_iterator" ∧ ∃ fs, o.data = .fields fs
/-- what a resume leaves: nothing has changed but C and iterators of lists that are younger than C -/
def Since (C : Addr) (s₀ s : Shared) : Prop := ∃ h' tk, s = { s₀ with heap := h', toks := tk } ∧ ∀ b o, b ≠ C → (b < C ∨ ¬ LI o) → s₀.heap.get? b = some o → h'.get? b = some o
theorem Since.refl (C : Addr) (s : Shared) : Since C s s := ⟨s.heap, s.toks, rfl, fun _ _ _ _ e => e⟩
theorem Since.step {C : Addr} {s₀ s : Shared} (x : Since C s₀ s) {h' : Heap} {tk : Nat} (hk : ∀ b o, b ≠ C → (b < C ∨ ¬ LI o) → s.heap.get? b = some o → h'.get? b = some o) : Since C s₀ { s with heap := h', toks := tk } := by
  obtain ⟨h₁, tk₁, rfl, hk₁⟩ := x
  exact ⟨h', tk, rfl, fun b o hC hI e => hk b o hC hI (hk₁ b o hC hI e)⟩
/-- what must be kept between two resumes -/
def Held (C lg : Addr) (h h' : Heap) : Prop := ∀ b o, (b = C ∨ b = lg ∨ b = mainGlobals ∨ LI o) → h.get? b = some o → h'.get? b = some o

def gProto (N : Nat) (gr : List Int) (C lg : Addr) : Protocol := fun n s₀ v s kap =>
  (∃ x t, tell gr none (N - 1 - n) = some x ∧ v = .int x t) ∧ Since C s₀ s ∧
    (0 < n → ∀ s'' : Shared, Held C lg s.heap s''.heap → kap (.send .none) s'')
def gEnd (N : Nat) (gr : List Int) (C : Addr) : GenEnd := fun n s₀ r s₁ => r = .ok (.ret .none) ∧ (tell gr none (N - n) = none ∧ Since C s₀ s₁)

section
variable {prog : Program} {w : World} {A : Around}

/-- while True: yield last_interval -/
theorem seg_forever {N : Nat} {gr : List Int} {C lg f : Addr} {cd : Value} {fs : List Frame} {x : Int} {t : Tok} (hfs : splitAtGen fs = none) (hfg : fs.any Frame.guarded = false) :
    ∀ (n j : Nat) (s₀ s : Shared) (m : Str → Option Value), 0 < n → n + j = N → (∀ d, tell gr none (j + d) = some x) → s.heap.Ns C m → m "last_interval" = some (.int x t) → Since C s₀ s →
      Seg (model prog w) A (gEnd N gr C) (gProto N gr C lg) n s₀ (.whileLoop whT whB [] (gE C f cd)) ((model prog w).den (.whileLoop whT whB [] (gE C f cd))) fs s := by
  intro n
  induction n with
  | zero => intro j s₀ s m hn; exact absurd hn (Nat.lt_irrefl _)
  | succ n ih =>
    intro j s₀ s m _ hj hx hn hm hs
    refine seg_whileLoop ?_
    refine isTrue_plain (Constant_bool (wpAny_truthy_bool ?_))
    simp only [if_true]
    refine seg_execs_cons ?_
    refine seg_Expr_Yield hfs rfl hfg ?_
    refine wpAny_Name (wpAny_loadName_local rfl rfl hn hm ?_)
    intro kap hk
    refine ⟨⟨x, t, ?_, rfl⟩, hs, fun hn0 s'' hal => hk .none s'' ?_⟩
    · have := hx 0
      rw [show N - 1 - n = j + 0 by omega]; exact this
    · refine seg_execs_nil ?_
      refine seg_again rfl (ih (j + 1) s'' s'' m hn0 (by omega) (fun d => by rw [Nat.add_assoc]; exact hx _) (hn.at' fun o e => hal C o (.inl rfl) e) hm (Since.refl _ _))

theorem get_drop {α : Type} {l : List α} {i : Nat} {x : α} {r : List α} (h : l.drop i = x :: r) : l[i]? = some x ∧ l.drop (i + 1) = r ∧ i < l.length := by
  have hi : i < l.length := by
    refine Nat.lt_of_not_le fun hc => ?_
    rw [List.drop_of_length_le hc] at h; cases h
  rw [List.drop_eq_getElem_cons hi] at h
  injection h with h1 h2
  exact ⟨by rw [List.getElem?_eq_getElem hi, h1], h2, hi⟩
theorem ints_at {vs : List Value} {ns : List Int} {i : Nat} {v : Value} (h : IntsAre vs ns) (hv : vs[i]? = some v) : ∃ n t, v = .int n t ∧ ns[i]? = some n := by
  induction h generalizing i with
  | nil => simp at hv
  | cons n t r ih =>
    cases i with
    | zero => simp at hv; exact ⟨n, t, hv.symm, rfl⟩
    | succ i => simpa using ih (by simpa using hv)

theorem listIter_cls {h : Heap} {I lg : Addr} {i : Nat} {o : Obj} (it : h.IsListIter I lg i) (e : h.get? I = some o) : LI o := by
  obtain ⟨o', ho, hc, hd⟩ := it
  rw [ho] at e; cases e; exact ⟨hc, _, hd⟩

/-- for interval in grouping: .. -/
theorem seg_go {N : Nat} {gr : List Int} {vs : List Value} {C I lg f : Addr} {cd : Value} {kf : Result → Sem Fin} {lf : List Value} {cf : Code} {pf : Pos} {mg : Str → Option Value} {tc : Tok} (hA : A.handled = none)
    (hIC' : C < I) (hIC : I ≠ C) (hlC : lg ≠ C) (hlI : lg ≠ I) (hgC : mainGlobals ≠ C) (hgI : mainGlobals ≠ I) (hgr : IntsAre vs gr) (hcm : mg "CHAR_MAX" = some (.int 127 tc))
    (hend : ∀ n s₀ s' fl, (fl = .next ∨ fl = .ret .none) → tell gr none (N - n) = none → Since C s₀ s' → Seg (model prog w) A (gEnd N gr C) (gProto N gr C lg) n s₀ cf (kf (.ok fl)) [] s') :
    ∀ (rest : List Int) (i j n : Nat) (last : Option Int) (s₀ s : Shared) (m : Str → Option Value) (tl : Tok), gr.drop i = rest → i ≤ gr.length → 0 < n → n + j = N → (∀ d, tell gr none (j + d) = tell rest last d) → (last = none → rest.head? ≠ some 0) →
      s.heap.IsListIter I lg i → s.heap.IsList lg vs.toArray → s.heap.Ns C m → m "last_interval" = some (match last with | none => .none | some x => .int x tl) → s.heap.Ns mainGlobals mg → Since C s₀ s →
      Seg (model prog w) A (gEnd N gr C) (gProto N gr C lg) n s₀ (.forLoop (.Name "interval" forP) (.ref I) forB [] (gE C f cd)) ((model prog w).den (.forLoop (.Name "interval" forP) (.ref I) forB [] (gE C f cd)))
        [.ret kf none false lf cf pf []] s := by
  have hvl : vs.length = gr.length := hgr.length
  have hh : (A.over (.forLoop (.Name "interval" forP) (.ref I) forB [] (gE C f cd)) [.ret kf none false lf cf pf []]).handled = none := hA
  intro rest
  induction rest with
  | nil =>
    intro i j n last s₀ s m tl hd hle hn hj ht _ it hl hns hm hg hs
    have W := Walks.list (prog := prog) (w := w) hh I lg hlI vs.toArray
    have hi : gr.length ≤ i := by
      refine Nat.le_of_not_lt fun hc => ?_
      rw [List.drop_eq_getElem_cons hc] at hd; cases hd
    have ei : i = vs.toArray.size := by simp; omega
    subst ei
    refine seg_forLoop (W.done s _ _ ⟨it, hl⟩ fun h' tk k' => ?_)
    refine seg_leaf (.ok .next) (hend n s₀ _ .next (.inl rfl) ?_ (hs.step fun b o _ hI e => k' b o (fun hb => ?_) e))
    · have := ht 0
      rw [show N - n = j + 0 by omega, this]; rfl
    · rw [List.mem_singleton] at hb; subst hb; rcases hI with hI | hI; exact absurd hIC' (Nat.lt_asymm hI); exact hI (listIter_cls it e)
  | cons x rest ih =>
    intro i j n last s₀ s m tl hd hle hn hj ht h0 it hl hns hm hg hs
    have W := Walks.list (prog := prog) (w := w) hh I lg hlI vs.toArray
    obtain ⟨hx, hd', hi⟩ := get_drop hd
    refine seg_forLoop (W.item i s _ _ (by simpa [hvl] using hi) ⟨it, hl⟩ fun v h₁ tk₁ hv st₁ k₁ => ?_)
    obtain ⟨x', t, rfl, hx'⟩ := ints_at hgr (i := i) (v := v) (by simpa using hv)
    obtain rfl : x = x' := by rw [hx] at hx'; exact Option.some.inj hx'
    refine wpAny_storeName_local rfl (hns.at' fun o e => k₁ C o (fun hb => hIC (List.mem_singleton.mp hb).symm) e) (fun h₂ hn₂ sb₂ => ?_)
    have up₂ : ∀ b o, b ≠ C → b ≠ I → s.heap.get? b = some o → h₂.get? b = some o := fun b o hC hI e => sb₂.extBut b o hC (k₁ b o (fun hb => hI (List.mem_singleton.mp hb)) e)
    have hg₂ : h₂.Ns mainGlobals mg := hg.at' fun o e => up₂ _ o hgC hgI e
    have hl₂ : h₂.IsList lg vs.toArray := hl.at fun o e => up₂ _ o hlC hlI e
    have it₂ : h₂.IsListIter I lg (i + 1) := st₁.1.at fun o e => sb₂.extBut I o hIC e
    have hs₂ : ∀ tk, Since C s₀ { s with heap := h₂, toks := tk } := fun tk => hs.step fun b o hC hI e => up₂ b o hC (fun hb => by subst hb; rcases hI with hI | hI; exact absurd hIC' (Nat.lt_asymm hI); exact hI (listIter_cls it e)) e
    refine seg_execs_cons (seg_If ?_)
    refine wpAny_isTrue_Compare1 (wpAny_Name (wpAny_loadName_local rfl rfl hn₂ (if_pos rfl) ?_))
    refine Name_function_global rfl rfl (loadGlobal_global (mg := mg) hg₂ hcm ?_) (by decide)
    refine PyProof.Rows.eq_int (wpAny_truthy_bool ?_)
    by_cases h127 : x = 127
    · rw [if_pos (by simpa using h127)]
      refine seg_execs_cons (seg_wrap (wpAny_Return_none ?_))
      refine seg_leaf (.ok (.ret .none)) (hend n s₀ _ _ (.inr rfl) ?_ (hs₂ _))
      have := ht 0
      rw [show N - n = j + 0 by omega, this]
      simp [tell, h127]
    rw [if_neg (by simpa using h127)]
    refine seg_execs_nil ?_
    refine seg_execs_cons (seg_If ?_)
    refine wpAny_isTrue_Compare1 (wpAny_Name (wpAny_loadName_local rfl rfl hn₂ (if_pos rfl) (wpAny_Constant_int (PyProof.Rows.eq_int (wpAny_truthy_bool ?_)))))
    by_cases hx0 : x = 0
    · rw [if_pos (by simpa using hx0)]
      cases last with
      | none => exact absurd (by rw [hx0]; rfl) (h0 rfl)
      | some y =>
        refine seg_execs_cons (seg_If ?_)
        refine wpAny_isTrue_Compare1 (wpAny_Name (wpAny_loadName_local rfl rfl hn₂ ((if_neg (by decide)).trans hm) (wpAny_Constant_none (is_int_none (wpAny_truthy_bool ?_)))))
        rw [if_neg (by decide)]
        refine seg_execs_nil ?_
        refine seg_execs_cons (seg_While fun p => ?_)
        refine seg_forever rfl rfl n j s₀ _ _ hn hj (fun d => ?_) hn₂ ((if_neg (by decide)).trans hm) (hs₂ _)
        rw [ht d]; simp [tell, hx0]
    · rw [if_neg (by simpa using hx0)]
      refine seg_execs_nil ?_
      obtain ⟨n', rfl⟩ : ∃ n', n = n' + 1 := ⟨n - 1, by omega⟩
      refine seg_execs_cons (seg_Expr_Yield rfl rfl rfl (wpAny_Name (wpAny_loadName_local rfl rfl hn₂ (if_pos rfl) ?_)))
      intro kap hk
      refine ⟨⟨x, t, ?_, rfl⟩, hs₂ _, fun hn0 s'' hal => hk .none s'' ?_⟩
      · have := ht 0
        rw [show N - 1 - n' = j + 0 by omega, this]
        simp [tell, h127, hx0]
      have hn₃ := hn₂.at' fun o e => hal C o (.inl rfl) e
      have hg₃ := hg₂.at' fun o e => hal mainGlobals o (.inr (.inr (.inl rfl))) e
      have hl₃ := hl₂.at fun o e => hal lg o (.inr (.inl rfl)) e
      have it₃ := it₂.at fun o e => hal I o (.inr (.inr (.inr (listIter_cls it₂ e)))) e
      refine seg_execs_cons (seg_wrap (wpAny_Assign_Name (wpAny_Name (wpAny_loadName_local rfl rfl hn₃ (if_pos rfl) (wpAny_storeName_local rfl hn₃ (fun h₄ hn₄ sb₄ => ?_))))))
      refine seg_execs_nil ?_
      refine seg_again rfl (ih (i + 1) (j + 1) n' (some x) s'' _ _ t hd' hi hn0 (by omega) (fun d => ?_) (fun e => nomatch e) (it₃.at fun o e => sb₄.extBut I o hIC e) (hl₃.at fun o e => sb₄.extBut lg o hlC e) hn₄ (if_pos rfl) (hg₃.at' fun o e => sb₄.extBut _ o hgC e) ?_)
      · rw [Nat.add_assoc, Nat.add_comm 1 d, ht (d + 1)]
        simp [tell, h127, hx0]
      · exact (Since.refl C s'').step fun b o hC _ e => sb₄.extBut b o hC e

/-- the generator's body from its start -/
theorem seg_start {N : Nat} {gr : List Int} {vs : List Value} {C lg f : Addr} {cd : Value} {mg m : Str → Option Value} {tc : Tok} {s : Shared} (hA : A.handled = none) (hN : 0 < N)
    (hlC : lg ≠ C) (hgC : mainGlobals ≠ C) (hgr : IntsAre vs gr) (hcm : mg "CHAR_MAX" = some (.int 127 tc)) (h0 : gr.head? ≠ some 0)
    (hns : s.heap.Ns C m) (hm : m "grouping" = some (.ref lg)) (hl : s.heap.IsList lg vs.toArray) (hg : s.heap.Ns mainGlobals mg) :
    Seg (model prog w) A (gEnd N gr C) (gProto N gr C lg) N s (.func gB (gE C f cd)) ((model prog w).den (.func gB (gE C f cd))) [] s := by
  refine seg_func ?_
  refine seg_execs_cons (seg_wrap (wpAny_Assign_Name (wpAny_Constant_none (wpAny_storeName_local rfl hns (fun h₁ hn₁ sb₁ => ?_)))))
  have hl₁ : h₁.IsList lg vs.toArray := hl.at fun o e => sb₁.extBut lg o hlC e
  have hg₁ : h₁.Ns mainGlobals mg := hg.at' fun o e => sb₁.extBut _ o hgC e
  refine seg_execs_cons (seg_For (fun _ => rfl) (wpAny_Name (wpAny_loadName_local rfl rfl hn₁ ((if_neg (by decide)).trans hm) (wpAny_pyIter_list hl₁ ?_))))
  intro p
  have hC₁ : C < h₁.objs.size := by obtain ⟨o, _, _, e, _⟩ := hn₁; exact Heap.lt_size e
  have hlg₁ : lg < h₁.objs.size := by obtain ⟨o, e, _⟩ := hl₁; exact Heap.lt_size e
  have hmg₁ : mainGlobals < h₁.objs.size := by obtain ⟨o, _, _, e, _⟩ := hg₁; exact Heap.lt_size e
  refine seg_go (mg := mg) (tc := tc) hA hC₁ (Nat.ne_of_gt hC₁) hlC (Nat.ne_of_lt hlg₁) hgC (Nat.ne_of_lt hmg₁) hgr hcm ?_ gr 0 0 N none s _ _ 0 rfl (Nat.zero_le _) hN rfl (fun d => by rw [Nat.zero_add]) (fun _ => h0) ?_ (hl₁.push _) (hn₁.push _) (if_pos rfl) (hg₁.push _) ?_
  · rintro n s₀ s' fl (rfl | rfl) ht hs
    · exact seg_end (.ok (.ret .none)) ⟨rfl, ht, hs⟩
    · exact seg_end (.ok (.ret .none)) ⟨rfl, ht, hs⟩
  · exact ⟨_, Heap.get?_push_size _ rfl, rfl, rfl⟩
  · exact (Since.refl C s).step fun b o hC _ e => Heap.get?_push_of_some _ (sb₁.extBut b o hC e)
end
end Mine
/- a generator that is asked; a range iterator that is asked -/
namespace Mine

/-- a generator that has been asked j times -/
def GAt (prog : Program) (w : World) (A : Around) (N : Nat) (gr : List Int) (a : Addr) (g : Nat) (C lg : Addr) (j : Nat) (s : Shared) : Prop :=
  s.heap.IsGen a g ∧ s.heap.NoLimit ∧ ∃ gs, s.gens[g]? = some gs ∧ ∀ s'' : Shared, Held C lg s.heap s''.heap → gs.Goes (model prog w) A.in1 (gEnd N gr C) (gProto N gr C lg) (N - j) (.send .none) s''

/-- what asking it leaves -/
def Moves (g : Nat) (C : Addr) (s s' : Shared) : Prop :=
  (∀ b o, b ≠ C → (b < C ∨ ¬ LI o) → s.heap.get? b = some o → s'.heap.get? b = some o) ∧ s'.drawn = s.drawn ∧ s'.os = s.os ∧ GenOnlyQ g s.gens s'.gens

theorem Held.of {C lg : Addr} {h h' : Heap} {wr : List Addr} (hk : ∀ b o, b ∉ wr → h.get? b = some o → h'.get? b = some o)
    (hw : ∀ b ∈ wr, b ≠ C ∧ b ≠ lg ∧ b ≠ mainGlobals ∧ ∀ o, h.get? b = some o → ¬ LI o) : Held C lg h h' := by
  intro b o hb e
  refine hk b o (fun hm => ?_) e
  obtain ⟨h1, h2, h3, h4⟩ := hw b hm
  rcases hb with hb | hb | hb | hb
  · exact h1 hb
  · exact h2 hb
  · exact h3 hb
  · exact h4 o e hb
theorem Held.trans {C lg : Addr} {h h' h'' : Heap} (x : Held C lg h h') (y : Held C lg h' h'') : Held C lg h h'' := fun b o hb e => y b o hb (x b o hb e)

theorem GAt.keeps {prog : Program} {w : World} {A : Around} {N : Nat} {gr : List Int} {a : Addr} {g : Nat} {C lg : Addr} {j : Nat} {s : Shared} {wr : List Addr} {h' : Heap} {tk : Nat} (G : GAt prog w A N gr a g C lg j s)
    (hk : ∀ b o, b ∉ wr → s.heap.get? b = some o → h'.get? b = some o) (hw : ∀ b ∈ wr, b ≠ a ∧ b ≠ cStatics ∧ b ≠ C ∧ b ≠ lg ∧ b ≠ mainGlobals ∧ ∀ o, s.heap.get? b = some o → ¬ LI o) :
    GAt prog w A N gr a g C lg j { s with heap := h', toks := tk } := by
  obtain ⟨⟨o, nm, qn, ho, r⟩, ⟨mc, hns, hnn⟩, gs, hgs, hgo⟩ := G
  refine ⟨⟨o, nm, qn, hk _ _ (fun hm => (hw _ hm).1 rfl) ho, r⟩, ⟨mc, hns.at' fun o e => hk _ o (fun hm => (hw _ hm).2.1 rfl) e, hnn⟩, gs, hgs, fun s'' hal => hgo s'' ?_⟩
  exact (Held.of hk fun b hb => (hw b hb).2.2).trans hal

theorem not_LI_data {o : Obj} {es ep} (h : o.data = .dict es ep) : ¬ LI o := fun x => by obtain ⟨_, fs, e⟩ := x; rw [h] at e; cases e
theorem not_LI_cls {o : Obj} {c : Value} (h : o.cls = c) (hc : c ≠ .type "list_iterator") : ¬ LI o := fun x => hc (h ▸ x.1)

section
variable {prog : Program} {w : World} {A : Around} {E : Value → Shared → Prop} {s : Shared}

/-- the generator is asked -/
theorem gen_wake {N : Nat} {gr : List Int} {a : Addr} {g : Nat} {C lg : Addr} {j : Nat} {Q : Option Value → Shared → Prop} (hh : A.handled = none) (hroom : A.depth < recursionLimit)
    (haC : a ≠ C) (hcC : cStatics ≠ C) (G : GAt prog w A N gr a g C lg j s) (hj : j < N)
    (hI : ∀ x t s', tell gr none j = some x → (j + 1 < N → GAt prog w A N gr a g C lg (j + 1) s') → Moves g C s s' → Q (some (.int x t)) s')
    (hE : ∀ e s', tell gr none j = none → Moves g C s s' → (∃ o, s'.heap.get? e = some o ∧ o.cls = .type "StopIteration") → E (.ref e) s') :
    wpAny (model prog w) A (callSpecial? (.ref a) (Str.ofString "__next__")) Q E s := by
  obtain ⟨hg, hl, gs, hgs, hgo⟩ := G
  obtain ⟨m, hm⟩ : ∃ m, N - j = m + 1 := ⟨N - j - 1, by omega⟩
  rw [hm] at hgo
  refine wpAny_callSpecial?_slot (name := Str.ofString "__next__") hg.typeIs slot_gen_next (wpAny_call_entry slot_gen_next hg.typeIs entry_gen_next ?_ (args_gen_next _))
  show wpAny _ A.in1 (Builtin.Generator.genWake (.ref a) (.send .none)) _ _ s
  unfold Builtin.Generator.genWake
  refine wpAny_bind (wpAny_holding (wpAny_genNumber hg (wpAny_bind (wpAny_genState hgs ?_))))
  have hgo' := hgo (s.setGen g .running) fun _ _ _ e => e
  cases gs with
  | running => exact hgo'.elim
  | finished => exact hgo'.elim
  | _ =>
    refine wpAny_bind (wpAny_roomToWake hl hroom ?_)
    show wpAny _ A.in1 (.resume g (.send .none) [] _) _ _ s
    refine wpAny_resumeQ hgs hgo' (fun x s₁ hx => ?_) (fun v s₁ gs' hb hv => ?_)
    · obtain ⟨rfl, ht, h₁, tk₁, rfl, hk₁⟩ := hx
      show wpAny _ A.in1 (newExc (.type "StopIteration") [] >>= _) _ _ _
      refine wpAny_bind ?_
      simp only [newExc, newTuple]
      refine wpAny_bind (wpAny_newObj_type ?_ (by size_fits))
      refine wpAny_bind (m := firstArgMember _ _) (wpAny_of_eq (a := Value.none) (by first | rfl | (simp only [firstArgMember]; rfl)) ?_)
      refine wpAny_newObj_type ?_ (by size_fits)
      simp only [raiseNew]
      refine wpAny_bind (wpAny_bind (wpAny_handled ?_))
      first | rw [show A.in1.handled = none from hh] | rw [hh]
      refine wpAny_throw ?_
      refine hE _ _ (by rw [show N - (m + 1) = j by omega] at ht; exact ht) ⟨fun b o h1 h2 e => ?_, rfl, rfl, ?_⟩ ⟨_, Heap.get?_push_size _ rfl, rfl⟩
      · exact Heap.get?_push_of_some _ (Heap.get?_push_of_some _ (hk₁ b o h1 h2 e))
      · exact GenOnlyQ.of ((GenOnly.setGen s g .running).trans (GenOnly.setGen _ g .finished)) (setGen_self (gs := .running) (setGen_self hgs)) rfl
    · obtain ⟨⟨x, t, hx, rfl⟩, ⟨h₁, tk₁, rfl, hk₁⟩, hkap⟩ := hv
      rw [show N - 1 - (m + 1 - 1) = j by omega] at hx
      refine wpAny_pure ⟨_, rfl, hI x t _ hx (fun hj' => ?_) ⟨hk₁, rfl, rfl, ?_⟩⟩
      · obtain ⟨o, nm, qn, ho, hc, r⟩ := hg
        obtain ⟨mc, ⟨oc, es, ep, hoc, hdc, rc⟩, hnn⟩ := hl
        refine ⟨⟨o, nm, qn, hk₁ a o haC (.inr (not_LI_cls hc (by decide))) ho, hc, r⟩, ⟨mc, ⟨oc, es, ep, hk₁ _ _ hcC (.inr (not_LI_data hdc)) hoc, hdc, rc⟩, hnn⟩, gs', setGen_self (gs := .running) (setGen_self hgs), fun s'' hal => ?_⟩
        rw [show N - (j + 1) = m by omega]
        exact hkap (by omega) s'' hal
      · exact GenOnlyQ.of ((GenOnly.setGen s g .running).trans (GenOnly.setGen _ g gs')) (setGen_self (gs := .running) (setGen_self hgs)) hb

theorem nextOf_special {v : Value} {Q : Value → Shared → Prop} (h : wpAny (model prog w) A (callSpecial? v (Str.ofString "__next__")) (fun r s' => ∃ x, r = some x ∧ Q x s') E s) :
    wpAny (model prog w) A (Builtin.SmallTypes.nextOf v) Q E s := by
  unfold Builtin.SmallTypes.nextOf
  refine wpAny_bind (wpAny_mono h (fun r s' hr => ?_) fun _ _ e => e)
  obtain ⟨x, rfl, hx⟩ := hr
  exact wpAny_pure hx
end
end Mine
/- the generator made -/
namespace Mine

section
variable {prog : Program} {w : World} {A : Around} {E : Value → Shared → Prop} {s : Shared}
/-- the generator function is called -/
theorem gen_call {h₀ : Heap} {L lg : Addr} {m mg mb : Str → Option Value} {p : Program} {loose : List Str} {mean : ExcName → Option Value} {vs : List Value} {gr : List Int} {N : Nat} {Q : Value → Shared → Prop}
    (F : Fr h₀ L s.heap m) (X : (Mine.hd03.heap_39 w.params).In h₀) (T : Top p loose mean mg mb h₀) (hroom : A.depth < recursionLimit) (hl : s.heap.IsList lg vs.toArray) (hgr : IntsAre vs gr) (h0 : gr.head? ≠ some 0) (hN : 0 < N)
    (hQ : ∀ h' tk gs, gs.bare = true → (∀ b o, s.heap.get? b = some o → h'.get? b = some o) → h'.objs.size = s.heap.objs.size + 2 →
      (∀ A' : Around, A'.handled = none → GAt prog w A' N gr (s.heap.objs.size + 1) s.gens.size s.heap.objs.size lg 0 { s with heap := h', toks := tk, gens := s.gens.push gs }) →
      Q (.ref (s.heap.objs.size + 1)) { s with heap := h', toks := tk, gens := s.gens.push gs }) :
    wpAny (model prog w) A (call (.ref 21) [.ref lg]) Q E s := by
  have X' := X.keeps F.keep
  have hgl := T.g.keeps F.keep
  have hcm : mg "CHAR_MAX" = some (.int 127 189) := mg_of X T.g rfl
  have hmC : mainGlobals < s.heap.objs.size := hgl.lt
  have hlC : lg < s.heap.objs.size := by obtain ⟨o, e, _⟩ := hl; exact Heap.lt_size e
  refine wpAny_call (codeAny_call_generator (body := gB) hroom (X' 21 _ rfl) rfl rfl rfl rfl (codeRec_of X' rfl) ?_)
  refine BindsTo.of_eq (binds := [("grouping", .ref lg)]) rfl _ _ _ _ ?_
  refine wpAny_newFunctionEnv (by decide) (locs rfl) (fun h₁ hns hs₁ => ?_)
  have k₁ : ∀ b o, s.heap.get? b = some o → h₁.get? b = some o := fun b o e => hs₁.extBut b o (Nat.ne_of_lt (Heap.lt_size e)) (Heap.get?_push_of_some _ e)
  have z₁ : h₁.objs.size = s.heap.objs.size + 1 := by rw [hs₁.1, Heap.size_push]
  refine ⟨(T.nolimit.keeps F.keep).keeps k₁, ?_⟩
  dsimp only
  rw [z₁]
  refine hQ _ _ _ rfl (fun b o e => Heap.get?_push_of_some _ (k₁ b o e)) (by rw [Heap.size_push, z₁]) (fun A' hA' => ?_)
  refine ⟨by rw [← z₁]; exact ⟨_, _, _, Heap.get?_push_size _ rfl, rfl, rfl, rfl⟩, ((T.nolimit.keeps F.keep).keeps k₁).keeps fun b o e => Heap.get?_push_of_some _ e, _, Array.getElem?_push_size .., fun s'' hal => ⟨rfl, ?_⟩⟩
  rw [Nat.sub_zero]
  refine seg_start hA' hN (Nat.ne_of_lt hlC) (Nat.ne_of_lt hmC) hgr hcm h0 ((hns.push _).at' fun o e => hal _ o (.inl rfl) e) rfl ((hl.at fun o e => Heap.get?_push_of_some _ (k₁ _ o e)).at fun o e => hal _ o (.inr (.inl rfl)) e)
    ((hgl.keeps fun b o e => Heap.get?_push_of_some _ (k₁ b o e)).at' fun o e => hal _ o (.inr (.inr (.inl rfl))) e)
end
end Mine
namespace Mine

theorem item_eq {x : Str} {i : Nat} (h : i < x.length) : (Txt.item x (i : Int) == (⟨#[32]⟩ : Str)) = (x.cps.toList[i]? == some 32) := by
  have hi : seqIndex? (i : Int) x.length = some i := by
    rw [seqIndex_of (by omega) (by omega)]; simp
  have : Txt.charAt x (i : Int) = x.cps[i]? := by unfold Txt.charAt; rw [hi]; rfl
  unfold Txt.item
  rw [this]
  have hi' : i < x.cps.size := h
  rw [Array.getElem?_toList, Array.getElem?_eq_getElem hi']
  simp only [Option.getD_some]
  by_cases hc : x.cps[i] = 32
  · rw [hc]; rfl
  · rw [Bool.eq_iff_iff]; simp [hc]

section
variable {prog : Program} {w : World} {A : Around} {E : Value → Shared → Prop} {s : Shared} {h₀ : Heap} {L a : Addr} {m : Str → Option Value} {news : List (Addr × Obj)} {name : Str} {scope : Scope} {cd : Value}

/-- «n and x[i] == ' '» -/
theorem strip_test {x : Str} {t ti ta : Tok} {i n : Int} {nA nS nI : Str} {p1 p2 p3 p4 p5 p6 p7 : Pos} {k7 : Nat} {whole : Sem Value} {Q : Bool → Shared → Prop}
    (F : Fr h₀ L s.heap m) (hm : m nA = some (.int n ta)) (hs : m nS = some (.str x t)) (hi : m nI = some (.int i ti)) (hA : A.handled = none) (hr : fitsSsize i = true)
    (h0 : n = 0 → Q false s)
    (h1 : n ≠ 0 → ∀ tk, -(x.length : Int) ≤ i → i < x.length → Q (Txt.item x i == ⟨#[32]⟩) { s with toks := tk })
    (h2 : n ≠ 0 → (i < -(x.length : Int) ∨ (x.length : Int) ≤ i) → ∀ h' tk e, Heap.NewExc s.heap h' e "IndexError" → E (.ref e) { s with heap := h', toks := tk })
    (hk : scope.kind = .function) (hl1 : (envOf name scope L a cd).kindOf nA = some .local) (hl2 : (envOf name scope L a cd).kindOf nS = some .local) (hl3 : (envOf name scope L a cd).kindOf nI = some .local)
    (hd1 : (nA == ("__debug__" : Str)) = false) (hd2 : (nS == ("__debug__" : Str)) = false) (hd3 : (nI == ("__debug__" : Str)) = false) :
    wpAny (model prog w) A (isTrue (.BoolOp .And [.Name nA p1, .Compare (.Subscript (.Name nS p2) (.Name nI p3) p4) [.Eq] [.Constant (.str " ") k7 p5] p6] p7) (envOf name scope L a cd) whole) Q E s := by
  refine isTrue_and (isTrue_plain (ld F hm (truthy_int ?_) hk hl1 hd1))
  by_cases hn : n = 0
  · subst hn
    simp only [bne_self_eq_false, Bool.false_eq_true, if_false]
    exact h0 rfl
  · rw [if_pos (by simpa using hn)]
    refine isTrue_and (wpAny_isTrue_Compare1 (Subscript_ (ld F hs (ld F hi (item_str_or hA hr (fun ho h' tk e hx => h2 hn ho h' tk e hx) fun hlo hhi => ?_) hk hl3 hd3) hk hl2 hd2)))
    refine Constant_str (eq_str (wpAny_truthy_bool ?_))
    have e : (Txt.item x i == Str.ofString " ") = (Txt.item x i == ⟨#[32]⟩) := by
      rw [show Str.ofString " " = (⟨#[32]⟩ : Str) from by decide +kernel]
    rw [e]
    have q := h1 hn (s.toks + 1 + 1) hlo hhi
    cases hb : (Txt.item x i == (⟨#[32]⟩ : Str)) with
    | true => rw [hb] at q; exact isTrue_and_nil q
    | false => rw [hb] at q; exact q

/-- «i += 1 ; n -= 1» and «i -= 1 ; n -= 1» -/
theorem strip_turn {i n : Int} {ti ta : Tok} {nA nI : Str} {op : Operator} {p1 p2 p3 p4 p5 p6 : Pos} {k1 k2 : Nat} {Q : Flow → Shared → Prop} {j : Int}
    (F : Fr h₀ L s.heap m) (N : News h₀ L s.heap news) (hm : m nA = some (.int n ta)) (hi : m nI = some (.int i ti)) (hne : nA ≠ nI)
    (hop : (op = .Add ∧ j = i + 1) ∨ (op = .Sub ∧ j = i - 1))
    (h : ∀ h' tk t1 t2 m', Fr h₀ L h' m' → News h₀ L h' news → m' nA = some (.int (n - 1) t1) → m' nI = some (.int j t2) → (∀ y, y ≠ nA → y ≠ nI → m' y = m y) → Q .next { s with heap := h', toks := tk })
    (hk : scope.kind = .function) (hl1 : (envOf name scope L a cd).kindOf nA = some .local) (hl3 : (envOf name scope L a cd).kindOf nI = some .local) :
    wpAny (model prog w) A (execs [.AugAssign (.Name nI p1) op (.Constant (.int 1) k1 p2) p3, .AugAssign (.Name nA p4) .Sub (.Constant (.int 1) k2 p5) p6] (envOf name scope L a cd)) Q E s := by
  have last : ∀ (s' : Shared) (t' : Tok), Fr h₀ L s'.heap (fun y => if y = nI then some (.int j t') else m y) → News h₀ L s'.heap news → s'.gens = s.gens → s'.drawn = s.drawn → s'.os = s.os →
      wpAny (model prog w) A (execs [.AugAssign (.Name nA p4) .Sub (.Constant (.int 1) k2 p5) p6] (envOf name scope L a cd)) Q E s' := by
    intro s' t' F' N' e1 e2 e3
    refine wpAny_execs_cons (wpAny_AugAssign_Name (ldn F' (by rw [if_neg hne]; exact hm) (wpAny_Constant_int (PyProof.Rows.isub_int ?_)) hk hl1))
    refine stN F' N' (fun h'' F'' N'' => wpAny_execs_nil ?_) hk hl1
    obtain ⟨hp, gs, dr, tks, os⟩ := s'
    cases e1; cases e2; cases e3
    exact h h'' _ _ _ _ F'' N'' (if_pos rfl) (by rw [if_neg (Ne.symm hne), if_pos rfl]) (fun y hy hy' => by rw [if_neg hy, if_neg hy'])
  rcases hop with ⟨rfl, rfl⟩ | ⟨rfl, rfl⟩
  · refine wpAny_execs_cons (wpAny_AugAssign_Name (ldn F hi (wpAny_Constant_int (PyProof.Rows.iadd_int ?_)) hk hl3))
    refine stN F N (fun h' F' N' => ?_) hk hl3
    exact last _ _ F' N' rfl rfl rfl
  · refine wpAny_execs_cons (wpAny_AugAssign_Name (ldn F hi (wpAny_Constant_int (PyProof.Rows.isub_int ?_)) hk hl3))
    refine stN F N (fun h' F' N' => ?_) hk hl3
    exact last _ _ F' N' rfl rfl rfl

abbrev tst (nA nS nI : Str) (p1 p2 p3 p4 p5 p6 p7 : Pos) (k : Nat) : Expr := .BoolOp .And [.Name nA p1, .Compare (.Subscript (.Name nS p2) (.Name nI p3) p4) [.Eq] [.Constant (.str " ") k p5] p6] p7

theorem strip_front {x : Str} {n : Int} {t ti ta : Tok} {nA nS nI : Str} {p1 p2 p3 p4 p5 p6 p7 q1 q2 q3 q4 q5 q6 pw : Pos} {k1 k2 k7 : Nat} {Q : Flow → Shared → Prop}
    (F : Fr h₀ L s.heap m) (N : News h₀ L s.heap news) (hm : m nA = some (.int n ta)) (hs : m nS = some (.str x t)) (hi : m nI = some (.int 0 ti)) (hA : A.handled = none) (hsz : x.length < 2 ^ 62)
    (hne : nA ≠ nI) (hne2 : nS ≠ nA) (hne3 : nS ≠ nI)
    (hQ : ∀ (k : Nat) h' tk t1 t2 m', k ≤ lead x.cps.toList → (0 ≤ n → (k : Int) ≤ n) → (n - k = 0 ∨ (k = lead x.cps.toList ∧ lead x.cps.toList < x.length)) → Fr h₀ L h' m' → News h₀ L h' news →
      m' nA = some (.int (n - k) t1) → m' nI = some (.int k t2) → (∀ y, y ≠ nA → y ≠ nI → m' y = m y) → Q .next { s with heap := h', toks := tk })
    (hX : lead x.cps.toList = x.length → ¬ (0 ≤ n ∧ n ≤ x.length) → ∀ h h' tk e m', Fr h₀ L h m' → News h₀ L h news → Heap.NewExc h h' e "IndexError" → E (.ref e) { s with heap := h', toks := tk })
    (hE : PassesOwn (model prog w) A (envOf name scope L a cd) E)
    (hk : scope.kind = .function) (hl1 : (envOf name scope L a cd).kindOf nA = some .local) (hl2 : (envOf name scope L a cd).kindOf nS = some .local) (hl3 : (envOf name scope L a cd).kindOf nI = some .local)
    (hd1 : (nA == ("__debug__" : Str)) = false) (hd2 : (nS == ("__debug__" : Str)) = false) (hd3 : (nI == ("__debug__" : Str)) = false) :
    wpAny (model prog w) A (exec (.While (tst nA nS nI p1 p2 p3 p4 p5 p6 p7 k7) [.AugAssign (.Name nI q1) .Add (.Constant (.int 1) k1 q2) q3, .AugAssign (.Name nA q4) .Sub (.Constant (.int 1) k2 q5) q6] [] pw) (envOf name scope L a cd)) Q E s := by
  have hlen : x.cps.toList.length = x.length := by simp [Str.length]
  have hll := lead_le x.cps.toList
  refine While_inv (fun j m₁ news₁ => ∃ (k : Nat) (t1 t2 : Tok), j = x.length - k ∧ news₁ = news ∧ k ≤ lead x.cps.toList ∧ (0 ≤ n → (k : Int) ≤ n) ∧ m₁ nA = some (.int (n - k) t1) ∧ m₁ nI = some (.int k t2) ∧ (∀ y, y ≠ nA → y ≠ nI → m₁ y = m y)) (n₀ := x.length) F N
    ⟨0, ta, ti, by simp, rfl, by omega, by simp, by simpa using hm, by simpa using hi, fun _ _ _ => rfl⟩ ?_ hE
  rintro j m₁ news₁ h₁ tk₁ F₁ N₁ ⟨k, t1, t2, rfl, rfl, hk1, hk2, e1, e2, e3⟩
  refine strip_test (s := { s with heap := h₁, toks := tk₁ }) F₁ e1 ((e3 nS hne2 hne3).trans hs) e2 hA ?_ ?_ ?_ ?_ hk hl1 hl2 hl3 hd1 hd2 hd3
  · unfold fitsSsize
    simp only [Bool.not_eq_true', Bool.or_eq_false_iff, decide_eq_false_iff_not]
    omega
  · intro h0
    rw [if_neg Bool.false_ne_true]
    exact hQ k h₁ tk₁ t1 t2 m₁ hk1 hk2 (.inl h0) F₁ N₁ e1 e2 e3
  · intro h0 tk hlo hhi
    have hkx : k < x.length := by omega
    rw [item_eq hkx]
    by_cases hk3 : k < lead x.cps.toList
    · have hb := lead_blank hk3
      rw [hb]
      simp only [beq_self_eq_true, if_true]
      refine strip_turn (s := { s with heap := h₁, toks := tk }) (j := (k : Int) + 1) F₁ N₁ e1 e2 hne (.inl ⟨rfl, rfl⟩) ?_ hk hl1 hl3
      intro h' tk' u1 u2 m' F' N' g1 g2 g3
      refine WhileStep.intro (n' := x.length - (k + 1)) F' N' (by omega) ⟨k + 1, u1, u2, rfl, rfl, by omega, by omega, ?_, ?_, fun y hy hy' => (g3 y hy hy').trans (e3 y hy hy')⟩
      · rw [g1]; congr 2; omega
      · rw [g2]; congr 2
    · have hk4 : k = lead x.cps.toList := by omega
      obtain ⟨c, c1, c2⟩ := lead_stop (l := x.cps.toList) (by omega)
      rw [hk4, c1]
      have : (some c == some 32) = false := by simpa using c2
      rw [this, if_neg Bool.false_ne_true]
      exact hQ k h₁ tk t1 t2 m₁ hk1 hk2 (.inr ⟨hk4, by omega⟩) F₁ N₁ e1 e2 e3
  · intro h0 ho h' tk e hx
    have hk5 : x.length ≤ k := by omega
    exact hX (by omega) (by omega) h₁ h' tk e m₁ F₁ N₁ hx

theorem strip_back {x : Str} {n : Int} {t ti ta : Tok} {nA nS nI : Str} {p1 p2 p3 p4 p5 p6 p7 q1 q2 q3 q4 q5 q6 pw : Pos} {k1 k2 k7 : Nat} {Q : Flow → Shared → Prop}
    (F : Fr h₀ L s.heap m) (N : News h₀ L s.heap news) (hm : m nA = some (.int n ta)) (hs : m nS = some (.str x t)) (hi : m nI = some (.int ((x.length : Int) - 1) ti)) (hA : A.handled = none) (hsz : x.length < 2 ^ 62)
    (hne : nA ≠ nI) (hne2 : nS ≠ nA) (hne3 : nS ≠ nI) (hst : n = 0 ∨ lead x.cps.toList < x.length)
    (hQ : ∀ (j : Nat) h' tk t1 t2 m', j ≤ trail x.cps.toList → (n = 0 → j = 0) → (0 ≤ n → (j : Int) ≤ n) → (n - j = 0 ∨ j = trail x.cps.toList) → Fr h₀ L h' m' → News h₀ L h' news →
      m' nA = some (.int (n - j) t1) → m' nI = some (.int ((x.length : Int) - 1 - j) t2) → (∀ y, y ≠ nA → y ≠ nI → m' y = m y) → Q .next { s with heap := h', toks := tk })
    (hE : PassesOwn (model prog w) A (envOf name scope L a cd) E)
    (hk : scope.kind = .function) (hl1 : (envOf name scope L a cd).kindOf nA = some .local) (hl2 : (envOf name scope L a cd).kindOf nS = some .local) (hl3 : (envOf name scope L a cd).kindOf nI = some .local)
    (hd1 : (nA == ("__debug__" : Str)) = false) (hd2 : (nS == ("__debug__" : Str)) = false) (hd3 : (nI == ("__debug__" : Str)) = false) :
    wpAny (model prog w) A (exec (.While (tst nA nS nI p1 p2 p3 p4 p5 p6 p7 k7) [.AugAssign (.Name nI q1) .Sub (.Constant (.int 1) k1 q2) q3, .AugAssign (.Name nA q4) .Sub (.Constant (.int 1) k2 q5) q6] [] pw) (envOf name scope L a cd)) Q E s := by
  have hlen : x.cps.toList.length = x.length := by simp [Str.length]
  have hll := trail_le x.cps.toList
  have htr : n = 0 ∨ trail x.cps.toList < x.length := hst.imp id fun h => by have := lead_trail (l := x.cps.toList) (by omega); omega
  refine While_inv (fun i m₁ news₁ => ∃ (j : Nat) (t1 t2 : Tok), i = x.length - j ∧ news₁ = news ∧ j ≤ trail x.cps.toList ∧ (n = 0 → j = 0) ∧ (0 ≤ n → (j : Int) ≤ n) ∧ m₁ nA = some (.int (n - j) t1) ∧ m₁ nI = some (.int ((x.length : Int) - 1 - j) t2) ∧ (∀ y, y ≠ nA → y ≠ nI → m₁ y = m y)) (n₀ := x.length) F N
    ⟨0, ta, ti, by simp, rfl, by omega, fun _ => rfl, by simp, by simpa using hm, by simpa using hi, fun _ _ _ => rfl⟩ ?_ hE
  rintro i m₁ news₁ h₁ tk₁ F₁ N₁ ⟨j, t1, t2, rfl, rfl, hk1, hk0, hk2, e1, e2, e3⟩
  refine strip_test (s := { s with heap := h₁, toks := tk₁ }) F₁ e1 ((e3 nS hne2 hne3).trans hs) e2 hA ?_ ?_ ?_ ?_ hk hl1 hl2 hl3 hd1 hd2 hd3
  · unfold fitsSsize
    simp only [Bool.not_eq_true', Bool.or_eq_false_iff, decide_eq_false_iff_not]
    omega
  · intro h0
    rw [if_neg Bool.false_ne_true]
    exact hQ j h₁ tk₁ t1 t2 m₁ hk1 hk0 hk2 (.inl h0) F₁ N₁ e1 e2 e3
  · intro h0 tk hlo hhi
    have hn0 : n ≠ 0 := fun q => h0 (by have := hk0 q; omega)
    have htr := htr.resolve_left hn0
    have hix : ((x.length : Int) - 1 - j) = ((x.length - 1 - j : Nat) : Int) := by omega
    rw [hix, item_eq (by omega)]
    by_cases hk3 : j < trail x.cps.toList
    · have hb := trail_blank hk3
      rw [hlen] at hb
      rw [hb]
      simp only [beq_self_eq_true, if_true]
      refine strip_turn (s := { s with heap := h₁, toks := tk }) (j := (x.length : Int) - 1 - j - 1) F₁ N₁ e1 e2 hne (.inr ⟨rfl, rfl⟩) ?_ hk hl1 hl3
      intro h' tk' u1 u2 m' F' N' g1 g2 g3
      refine WhileStep.intro (n' := x.length - (j + 1)) F' N' (by omega) ⟨j + 1, u1, u2, rfl, rfl, by omega, fun q => absurd q hn0, by omega, ?_, ?_, fun y hy hy' => (g3 y hy hy').trans (e3 y hy hy')⟩
      · rw [g1]; congr 2; omega
      · rw [g2]; congr 2; omega
    · have hk4 : j = trail x.cps.toList := by omega
      obtain ⟨c, c1, c2⟩ := trail_stop (l := x.cps.toList) (by omega)
      rw [hk4, ← hlen, c1]
      have : (some c == some 32) = false := by simpa using c2
      rw [this, if_neg Bool.false_ne_true]
      exact hQ j h₁ tk t1 t2 m₁ hk1 hk0 hk2 (.inr hk4) F₁ N₁ e1 e2 e3
  · intro h0 ho h' tk e hx
    have hn0 : n ≠ 0 := fun q => h0 (by have := hk0 q; omega)
    have htr := htr.resolve_left hn0
    omega
end
end Mine
namespace Mine

theorem strip03 {prog : Program} {w : World} {A A₀ : Around} {E : Value → Shared → Prop} {s : Shared} {h₀ base : Heap} {L : Addr} {m mg mb : Str → Option Value} {news : List (Addr × Obj)} {p : Program} {loose : List Str} {mean : ExcName → Option Value} {Q : Value → Shared → Prop} {env : Env} {outer : List Env}
    {x : Str} {n : Int} {t tn : Tok}
    (B : Below A₀ base outer h₀) (F : Fr h₀ L s.heap m) (X₀ : (Mine.hd03.heap_39 w.params).In h₀) (N : News h₀ L s.heap news) (T : Top p loose mean mg mb h₀) (hA : A.frames = some (env :: outer)) (hf : env.frame = some L) (hke : env.scope.kind = .function)
    (hroom : A.depth < recursionLimit) (hh : A.handled = none) (hsz : x.length ≤ sizeLine)
    (hQ : ∀ a b h' tk t', stripB x.cps.toList n = some (a, b) → Fr h₀ L h' m → News h₀ L h' news → Q (.str (Txt.slice x (some (a : Int)) (some (b : Int))) t') { s with heap := h', toks := tk })
    (hE : ∀ g h' tk e, stripB x.cps.toList n = none → Fr h₀ L g m → g.UpToSlots h' → RaisedN base (env :: outer) e (.type "IndexError") news h' → E (.ref e) { s with heap := h', toks := tk }) :
    wpAny (model prog w) A (call (.ref 28) [.str x t, .int n tn]) Q E s := by
  have hsl : sizeLine = 16777216 := rfl
  refine wpAny_call (code_def (K := Mine.hd03.heap_39 w.params) B F X₀ N T hA hf hke rfl rfl hroom (BindsTo.of_eq rfl) (locs rfl) ?_ rfl rfl rfl (by decide))
  intro g L' h₁ FG F' N' B' X' T'
  dsimp only
  refine wpAny_execs_cons (wpAny_Assign_Name (wpAny_Constant_int (stN F' N' (fun h₂ F₂ N₂ => ?_))))
  dsimp only
  refine wpAny_execs_cons (strip_front F₂ N₂ rfl rfl rfl hh (by omega) (by decide) (by decide) (by decide) ?_ ?_ (by passes_own) rfl rfl rfl rfl (by decide) (by decide) (by decide))
  · intro k h₃ tk₃ t1 t2 m₃ hk1 hk2 hk3 F₃ N₃ e1 e2 e3
    dsimp only
    refine wpAny_execs_cons (wpAny_Assign_Name (wpAny_BinOp (Call_ (nameX_B (cl := []) F₃ X' (topRead_of T') rfl boot_len (by decide) ?_))))
    refine callWith_builtin1 (args_cons (ld F₃ ((e3 _ (by decide) (by decide)).trans rfl) (args_nil ?_)))
    refine PyProof.Rows.len_str (by omega) (wpAny_Constant_int (PyProof.Rows.sub_int (stN F₃ N₃ (fun h₄ F₄ N₄ => ?_))))
    dsimp only
    refine wpAny_execs_cons (strip_back F₄ N₄ ((if_neg (by decide)).trans e1) ((if_neg (by decide)).trans ((e3 _ (by decide) (by decide)).trans rfl)) rfl hh (by omega) (by decide) (by decide) (by decide) (hk3.imp id fun h => h.2) ?_ (by passes_own) rfl rfl rfl rfl (by decide) (by decide) (by decide))
    intro j h₅ tk₅ u1 u2 m₅ hj0 hj1 hj2 hj3 F₅ N₅ g1 g2 g3
    dsimp only
    refine wpAny_execs_cons (wpAny_Return_some (Subscript_ (ld F₅ ((g3 _ (by decide) (by decide)).trans ((if_neg (by decide)).trans ((e3 _ (by decide) (by decide)).trans rfl))) ?_)))
    refine wpAny_Slice (evalPart_some_step (ld F₅ ((g3 _ (by decide) (by decide)).trans ((if_neg (by decide)).trans e2)) ?_))
    refine evalPart_some_step (wpAny_BinOp (ld F₅ g2 (wpAny_Constant_int (PyProof.Rows.add_int ?_))))
    refine evalPart_none_step ?_
    refine slice_strN_ss F₅ N₅ ?_ (hsz := hsz)
    intro h₆ t₆ tk₆ F₆ N₆
    refine leaveK_ F₆ N₆ fun F₇ N₇ => ?_
    have hlen : x.cps.toList.length = x.length := by simp [Str.length]
    have hll := lead_le x.cps.toList
    have htl := trail_le x.cps.toList
    have hb : stripB x.cps.toList n = some (k, x.length - j) := by
      unfold stripB
      rw [hlen]
      by_cases hl : lead x.cps.toList = x.length
      · rw [if_pos hl]
        have hnk : n - k = 0 := hk3.resolve_right (by omega)
        have := hj1 hnk
        rw [if_pos (by omega)]
        congr 2 <;> omega
      · rw [if_neg hl]
        dsimp only
        have ea : (if n < 0 then lead x.cps.toList else min (lead x.cps.toList) n.toNat) = k := by
          split <;> omega
        rw [ea]
        have eb : (if n < 0 then trail x.cps.toList else min (trail x.cps.toList) (n.toNat - k)) = j := by
          split <;> omega
        rw [eb]
    have hv := hQ k (x.length - j) h₆ tk₆ t₆ hb F₇ N₇
    rw [show (((x.length - j : Nat) : Int)) = (x.length : Int) - 1 - j + 1 by omega] at hv
    exact hv
  · intro hl hn h h' tk e m' F₃ N₃ hx
    dsimp only
    refine leave_newK B' hx F₃ N₃ fun h₄ R hup => ?_
    refine hE g h₄ tk e ?_ FG hup R
    unfold stripB
    rw [show x.cps.toList.length = x.length by simp [Str.length], if_pos hl, if_neg hn]
end Mine
/- lists of ints: slices, sums, the last item; a comprehension over a range -/
namespace Mine
/-- the partial sums -/
def sumsOf (ns : List Int) : List Int := (List.range ns.length).map fun k => (ns.take (k + 1)).sum
theorem sumsOf_length (ns : List Int) : (sumsOf ns).length = ns.length := by simp [sumsOf]
def lastI (ns : List Int) : Int := ns.getD (ns.length - 1) 0
theorem sumsOf_last {ns : List Int} (h : ns ≠ []) : lastI (sumsOf ns) = ns.sum := by
  have hp : 0 < ns.length := List.length_pos_iff.mpr h
  unfold lastI
  rw [sumsOf_length, List.getD_eq_getElem?_getD]
  unfold sumsOf
  rw [List.getElem?_map, List.getElem?_range (by omega)]
  simp only [Option.map_some, Option.getD_some]
  rw [List.take_of_length_le (by omega)]

theorem keeps_refl' (s : Shared) : Keeps s s := ⟨s.heap, s.toks, rfl, fun _ _ e => e⟩

section
variable {prog : Program} {w : World} {A : Around} {E : Value → Shared → Prop} {s : Shared}

theorem list_slice_stays {value slice : Expr} {l : Addr} {items : Array Value} {vl vu : Value} {lo hi : Option Int} {Q : Value → Shared → Prop}
    (hl : s.heap.IsList l items) (pl : IsPart vl lo) (pu : IsPart vu hi)
    (h : ∀ D h', (∀ b o, s.heap.get? b = some o → h'.get? b = some o) → s.heap.get? D = none → h'.get? D = some (listOf (slicePick items lo hi none) 0) → Q (.ref D) { s with heap := h' })
    (hsz : items.size ≤ sizeLine)
    (hs : subscripted slice false (.ref l) (.ref s.heap.objs.size) = operate [.ref s.heap.objs.size, .ref l] (getItem (.ref l) (.ref s.heap.objs.size)) := by with_unfolding_all rfl)
    (ht : ∀ r, letTemporaryGo value (.ref l) r = pure () := by intro _; with_unfolding_all rfl) :
    wpAny (model prog w) A (subscriptTail value slice (.ref l) (.ref s.heap.objs.size)) Q E { s with heap := s.heap.push { cls := .type "slice", data := .fields #[vl, vu, .none] } } := by
  refine subscriptTail_ops (Heap.IsList.typeIs (s := { s with heap := s.heap.push { cls := .type "slice", data := .fields #[vl, vu, .none] } }) (hl.push _)) list_getitem_lookup
    (wpAny_getItem_list_slice (hl.push _) (Heap.IsSliceOf.new ..) pl pu .none (by simp) ?_ hsz) hs ht
  exact h _ _ (fun b o e => Heap.get?_push_of_some _ (Heap.get?_push_of_some _ e)) (fresh_size (by rw [Heap.size_push]; exact Nat.le_succ _)) (Heap.get?_push_size _ rfl)

theorem sum_stays {l : Addr} {vs : List Value} {ns : List Int} {Q : Value → Shared → Prop} (hh : A.handled = none) (hl : s.heap.IsList l vs.toArray) (hi : IntsAre vs ns)
    (h : ∀ h' tk t', (∀ b o, s.heap.get? b = some o → h'.get? b = some o) → Q (.int ns.sum t') { s with heap := h', toks := tk }) : wpAny (model prog w) A (call (.builtin "sum") [.ref l]) Q E s := by
  obtain ⟨xs, hx⟩ := hi.allInts.items
  have hl' : s.heap.IsList l (intItems xs) := hx ▸ hl
  refine sum_intListG hh hl' fun h' tk t' hk => ?_
  have e1 : ns = xs.toList.map (·.1) := by
    rw [← nums_intItems, ← hx]
    exact (show numsOf vs.toArray.toList = ns from hi.numsOf).symm
  have e2 : preSum (numAt xs) xs.size = ns.sum := by
    rw [preSum_eq, List.take_of_length_le (by simp), e1]
  rw [e2]
  exact h h' tk t' hk

theorem ints_getD {vs : List Value} {ns : List Int} (h : IntsAre vs ns) : ∀ {i : Nat}, i < ns.length → ∃ t, vs[i]? = some (.int (ns.getD i 0) t) := by
  induction h with
  | nil => intro i hi; simp at hi
  | cons n t r ih =>
    intro i hi
    cases i with
    | zero => exact ⟨t, rfl⟩
    | succ i =>
      obtain ⟨u, e⟩ := ih (i := i) (by simpa using hi)
      exact ⟨u, by simpa using e⟩

/-- xs[-1] -/
theorem item_last {value slice : Expr} {l : Addr} {vs : List Value} {ns : List Int} {u : Tok} {Q : Value → Shared → Prop} (hl : s.heap.IsList l vs.toArray) (hi : IntsAre vs ns) (hne : ns ≠ []) (hsz : ns.length < 2 ^ 62)
    (h : ∀ t, Q (.int (lastI ns) t) s)
    (hs : subscripted slice false (.ref l) (.int (-1) u) = operate [.ref l, .int (-1) u] (getItem (.ref l) (.int (-1) u)) := by with_unfolding_all rfl)
    (hg : ∀ r, letTemporaryGo value (.ref l) r = pure () := by intro _; with_unfolding_all rfl) :
    wpAny (model prog w) A (subscriptTail value slice (.ref l) (.int (-1) u)) Q E s := by
  have hp : 0 < ns.length := List.length_pos_iff.mpr hne
  have hvl : vs.length = ns.length := hi.length
  obtain ⟨t, e⟩ := ints_getD hi (i := ns.length - 1) (by omega)
  refine subscriptTail_builtin hl.typeIs slot_list_getitem.lookup (wpAny_getItem_list_neg (x := .int (lastI ns) t) hl (by omega) (by simp; omega) (by omega) ?_ (h t)) hs hg
  rw [List.size_toArray, hvl, show ((-1 : Int) + (ns.length : Int)).toNat = ns.length - 1 by omega]
  simpa [lastI] using e
/-- xs[k] -/
theorem item_at {value slice : Expr} {l : Addr} {vs : List Value} {ns : List Int} {k : Int} {u : Tok} {Q : Value → Shared → Prop} (hl : s.heap.IsList l vs.toArray) (hi : IntsAre vs ns) (h0 : 0 ≤ k) (h1 : k < ns.length) (hsz : ns.length < 2 ^ 62)
    (h : ∀ t, Q (.int (ns.getD k.toNat 0) t) s)
    (hs : subscripted slice false (.ref l) (.int k u) = operate [.ref l, .int k u] (getItem (.ref l) (.int k u)) := by with_unfolding_all rfl)
    (hg : ∀ r, letTemporaryGo value (.ref l) r = pure () := by intro _; with_unfolding_all rfl) :
    wpAny (model prog w) A (subscriptTail value slice (.ref l) (.int k u)) Q E s := by
  obtain ⟨t, e⟩ := ints_getD hi (i := k.toNat) (by omega)
  exact item_listL hl h0 (by omega) e (h t) hs hg

/-- values paired with the ints that f tells of the place -/
theorem ints_of_paired {f : Int → Int} : ∀ {n : Nat} {vs ys : List Value} {a : Int}, vs.length = n → (∀ j v, vs[j]? = some v → ∃ t, v = Value.int (a + (j : Nat) * 1) t) →
    Paired (fun v y => ∃ k t u, v = .int k t ∧ y = .int (f k) u) vs ys → IntsAre ys ((List.range n).map fun (i : Nat) => f (a + (i : Int)))
  | 0, [], _, _, _, _, .nil => .nil
  | n + 1, v :: vs, y :: ys, a, hl, h, .cons hy r => by
    obtain ⟨t, e⟩ := h 0 v rfl
    obtain ⟨k, t', u, e', rfl⟩ := hy
    rw [e] at e'
    cases e'
    have r' := ints_of_paired (f := f) (n := n) (vs := vs) (a := a + 1) (by simpa using hl) (fun j u hu => by
      obtain ⟨t, e⟩ := h (j + 1) u (by simpa using hu)
      refine ⟨t, e.trans ?_⟩
      congr 1
      omega) r
    rw [List.range_succ_eq_map, List.map_cons, List.map_map]
    have e0 : a + ((0 : Nat) : Int) * 1 = a + ((0 : Nat) : Int) := by omega
    rw [e0]
    refine .cons _ _ ?_
    have e : ((fun (i : Nat) => f (a + (i : Int))) ∘ Nat.succ) = fun (i : Nat) => f (a + 1 + (i : Int)) := by funext i; simp; congr 1; omega
    rw [e]
    exact r'
end
end Mine
/- for loops over a range or a list, with break and return, in any frame -/
namespace Mine
/-- a closed box about a proposition: the elaborator does not look into it -/
structure Go (P : Prop) : Prop where
  go : P
def rObj (x left : Int) : Obj := { cls := .type "range_iterator", data := .fields #[rawInt x, rawInt left, rawInt 1] }
/-- what may differ between two states of the law -/
def Sim (s s' : Shared) : Prop := s'.os = s.os ∧ (AllBare s.gens → AllBare s'.gens)
theorem Sim.refl (s : Shared) : Sim s s := ⟨rfl, id⟩
theorem Sim.trans {s s' s'' : Shared} (a : Sim s s') (b : Sim s' s'') : Sim s s'' := ⟨b.1.trans a.1, fun h => b.2 (a.2 h)⟩
theorem Sim.set {s s' : Shared} (a : Sim s s') (h : Heap) (t : Nat) : Sim s { s' with heap := h, toks := t } := a

theorem fr_but {h₀ h h' : Heap} {L I : Addr} {m : Str → Option Value} {news : List (Addr × Obj)} {o : Obj} (F : Fr h₀ L h m) (N : News h₀ L h ((I, o) :: news)) (k : ∀ b o, b ∉ [I] → h.get? b = some o → h'.get? b = some o) : Fr h₀ L h' m := by
  have z := N _ (.head _)
  refine ⟨F.ns.at' fun o e => k _ o (fun hb => z.2.1 (List.mem_singleton.mp hb).symm) e, fun b o e => k b o (fun hb => ?_) (F.keep b o e), F.above⟩
  rw [List.mem_singleton] at hb; subst hb
  rw [z.2.2] at e; cases e
theorem news_but {h₀ h h' : Heap} {L I : Addr} {news : List (Addr × Obj)} {o o' : Obj} (N : News h₀ L h ((I, o) :: news)) (hn : ∀ q ∈ news, q.1 ≠ I) (k : ∀ b o, b ∉ [I] → h.get? b = some o → h'.get? b = some o) (hI : h'.get? I = some o') : News h₀ L h' ((I, o') :: news) := by
  intro q hq
  rcases List.mem_cons.mp hq with rfl | hq
  · exact ⟨hI, (N _ (.head _)).2⟩
  · exact ⟨k _ _ (fun hb => hn q hq (List.mem_singleton.mp hb)) (N q (.tail _ hq)).1, (N q (.tail _ hq)).2⟩

section
variable {prog : Program} {w : World} {A : Around} {E : Value → Shared → Prop} {s : Shared} {h₀ : Heap} {L fa : Addr} {m : Str → Option Value} {cn : Str} {cs : Scope} {cd : Value} {cl : List (Str × Addr)} {news : List (Addr × Obj)} {x : Str} {px : Pos} {body : List Stmt} {I : Addr} {R : Result → Shared → Prop}

theorem range_for {N : Nat} {a : Int} (hh : A.handled = none) (J : Nat → (Str → Option Value) → List (Addr × Obj) → Prop) (F : Fr h₀ L s.heap m) (N0 : News h₀ L s.heap ((I, rObj a (N : Int)) :: news)) (hIn : ∀ q ∈ news, q.1 ≠ I) (h0 : J 0 m news)
    (step : ∀ j s' m' news' t, j < N → J j m' news' → (∀ q ∈ news', q.1 ≠ I) → Sim s s' → Fr h₀ L s'.heap (fun y => if y = x then some (.int (a + (j : Nat)) t) else m' y) → News h₀ L s'.heap ((I, rObj (a + ((j + 1 : Nat) : Int)) ((N : Int) - ((j + 1 : Nat) : Int))) :: news') →
      Go (wpAny (model prog w) A (execs body (envX cn cs L fa cd cl)) (fun f s₃ => match f with
        | .next | .cont => ∃ m₃ news₃, J (j + 1) m₃ news₃ ∧ (∀ q ∈ news₃, q.1 ≠ I) ∧ Sim s s₃ ∧ Fr h₀ L s₃.heap m₃ ∧ News h₀ L s₃.heap ((I, rObj (a + ((j + 1 : Nat) : Int)) ((N : Int) - ((j + 1 : Nat) : Int))) :: news₃)
        | .brk => R (.ok .next) s₃
        | .ret v => R (.ok (.ret v)) s₃) (notedBy (model prog w) A (envX cn cs L fa cd cl) fun e s' => R (.error e) s') s'))
    (done : ∀ s' m' news', J N m' news' → Sim s s' → Fr h₀ L s'.heap m' → News h₀ L s'.heap news' → Go (R (.ok .next) s'))
    (hk : cs.kind = .function := by rfl) (hx : (envX cn cs L fa cd cl).kindOf x = some .local := by rfl) :
    codeAny (model prog w) A (.forLoop (.Name x px) (.ref I) body [] (envX cn cs L fa cd cl)) R s := by
  have W := Walks.range (prog := prog) (w := w) hh I a 1 N
  refine codeAny_forLoop_any (fun n s' => ∃ j m' news', n = N + 1 - j ∧ j ≤ N ∧ J j m' news' ∧ (∀ q ∈ news', q.1 ≠ I) ∧ Sim s s' ∧ Fr h₀ L s'.heap m' ∧ News h₀ L s'.heap ((I, rObj (a + (j : Nat)) ((N : Int) - (j : Nat))) :: news')) ?_ (N + 1)
    ⟨0, m, news, rfl, Nat.zero_le _, h0, hIn, Sim.refl _, F, by simpa using N0⟩
  rintro n s' ⟨j, m', news', rfl, hj, hJ, hn, hs, F', N'⟩
  have st : IsRangeIter s'.heap I (a + (j : Nat) * 1) ((N : Int) - (j : Nat)) 1 := by
    rw [Int.mul_one]; exact (N' _ (.head _)).1
  rcases Nat.lt_or_eq_of_le hj with hlt | rfl
  · refine W.item j s' _ _ hlt st (fun v h₁ tk₁ hv st₁ k₁ => ?_)
    obtain ⟨t, rfl⟩ := hv
    have st₁' : h₁.get? I = some (rObj (a + ((j + 1 : Nat) : Int)) ((N : Int) - ((j + 1 : Nat) : Int))) := by
      have h9 : IsRangeIter h₁ I (a + ((j + 1 : Nat) : Int) * 1) ((N : Int) - ((j + 1 : Nat) : Int)) 1 := st₁
      rw [Int.mul_one] at h9; exact h9
    have F₁ := fr_but F' N' k₁
    have N₁ := news_but N' hn k₁ st₁'
    dsimp only
    refine wpAny_of_eq (rfl : letOwnedTupleGo (.Name x px) (.ref I) (.int (a + (j : Nat) * 1) t) = pure ()) ?_
    refine wpAny_assign_Name ?_
    refine storeX_L (s := { s' with heap := h₁, toks := tk₁ }) F₁ N₁ (fun h₂ F₂ N₂ => ?_) hk hx
    rw [Int.mul_one] at F₂
    have g := (step j { s' with heap := h₂, toks := tk₁ + 1 } m' news' t hlt hJ hn hs F₂ N₂).go
    refine wpAny_mono g (fun f s₃ h₃ => ?_) fun _ _ z => z
    cases f with
    | next =>
      obtain ⟨m₃, news₃, a1, a2, a3, a4, a5⟩ := h₃
      exact ⟨N + 1 - (j + 1), by omega, j + 1, m₃, news₃, rfl, hlt, a1, a2, a3, a4, a5⟩
    | cont =>
      obtain ⟨m₃, news₃, a1, a2, a3, a4, a5⟩ := h₃
      exact ⟨N + 1 - (j + 1), by omega, j + 1, m₃, news₃, rfl, hlt, a1, a2, a3, a4, a5⟩
    | brk => exact h₃
    | ret v => exact h₃
  · refine W.done s' _ _ st (fun h₁ tk₁ k₁ => ?_)
    dsimp only
    refine wpAny_execs_nil ?_
    have F₁ := fr_but F' N' k₁
    have N₁ : News h₀ L h₁ news' := fun q hq => ⟨k₁ _ _ (fun hb => hn q hq (List.mem_singleton.mp hb)) (N' q (.tail _ hq)).1, (N' q (.tail _ hq)).2⟩
    exact (done { s' with heap := h₁, toks := tk₁ } m' news' hJ hs F₁ N₁).go

/-- an iterator of a list at place j -/
def lObj (l : Addr) (j : Nat) : Obj := { cls := .type "list_iterator", data := .fields #[.ref l, rawInt j] }

/-- range(a, a + N), its iterator, onto the ledger -/
theorem range_iter_N {a : Int} {N : Nat} {t u : Tok} {Q : Value → Shared → Prop} (F : Fr h₀ L s.heap m) (N0 : News h₀ L s.heap news) (ha : -(2 ^ 62) ≤ a) (ha' : a < 2 ^ 62) (hN : a + (N : Int) < 2 ^ 62)
    (k : ∀ I h' tk, Fr h₀ L h' m → News h₀ L h' ((I, rObj a (N : Int)) :: news) → (∀ q ∈ news, q.1 ≠ I) → Q (.ref I) { s with heap := h', toks := tk }) :
    wpAny (model prog w) A (call (.type "range") [.int a t, .int (a + (N : Int)) u]) (fun xv s₁ => wpAny (model prog w) A (pyIter xv) Q E s₁) E s := by
  refine call_range_2 (wpAny_pyIter_range (IsRange.new _ _ _ _ _ _ _) (small_one ha ha' (by omega) hN) ?_)
  have e : Builtin.Range.rangeSize a (a + (N : Int)) 1 = N := by rw [rangeSize_one]; split <;> omega
  rw [e]
  have st : ∀ b o, s.heap.get? b = some o → ((s.heap.push { cls := .type "range", data := .fields #[.int a t, .int (a + (N : Int)) u, .int 1 s.toks] }).push (rObj a (N : Int))).get? b = some o := fun b o e => Heap.get?_push_of_some _ (Heap.get?_push_of_some _ e)
  refine k _ _ _ (fr_stays F st) (news_add F (news_stays N0 st) (Heap.get?_push_size _ rfl) (fresh_size (by rw [Heap.size_push]; exact Nat.le_succ _))) ?_
  intro q hq e
  have h1 := Heap.lt_size (N0 q hq).1
  rw [e, Heap.size_push] at h1
  exact Nat.lt_irrefl _ (Nat.lt_of_succ_lt h1)
/-- range(N), its iterator, onto the ledger -/
theorem range_iter_1 {N : Nat} {t : Tok} {Q : Value → Shared → Prop} (F : Fr h₀ L s.heap m) (N0 : News h₀ L s.heap news) (hN : (N : Int) < 2 ^ 62)
    (k : ∀ I h' tk, Fr h₀ L h' m → News h₀ L h' ((I, rObj 0 (N : Int)) :: news) → (∀ q ∈ news, q.1 ≠ I) → Q (.ref I) { s with heap := h', toks := tk }) :
    wpAny (model prog w) A (call (.type "range") [.int (N : Int) t]) (fun xv s₁ => wpAny (model prog w) A (pyIter xv) Q E s₁) E s := by
  refine range_iter hN (fun I h' tk st hI0 _ hit => ?_)
  have hit' : h'.get? I = some (rObj 0 (N : Int)) := by simpa [IsRangeIter, rObj] using hit
  refine k I h' tk (fr_stays F st) (news_add F (news_stays N0 st) hit' hI0) ?_
  intro q hq e
  have h1 := (N0 q hq).1
  rw [e, hI0] at h1; cases h1
end
end Mine
/- for loops over a list of the ledger, with break and return, in any frame -/
namespace Mine
section
variable {prog : Program} {w : World} {A : Around} {E : Value → Shared → Prop} {s : Shared} {h₀ : Heap} {L fa : Addr} {m : Str → Option Value} {cn : Str} {cs : Scope} {cd : Value} {cl : List (Str × Addr)} {news : List (Addr × Obj)} {x : Str} {px : Pos} {body : List Stmt} {I l : Addr} {R : Result → Shared → Prop}
  {vs : List Value} {ep : Nat} {o0 : Obj}

theorem list_for (hh : A.handled = none) (J : Nat → (Str → Option Value) → List (Addr × Obj) → Prop) (hJ : ∀ j m' news', J j m' news' → (l, listOf (List.toArray vs) ep) ∈ news') (F : Fr h₀ L s.heap m) (N0 : News h₀ L s.heap ((I, o0) :: news)) (hIn : ∀ q ∈ news, q.1 ≠ I) (it0 : s.heap.IsListIter I l 0) (h0 : J 0 m news)
    (step : ∀ j s' m' news' v o, vs[j]? = some v → J j m' news' → (∀ q ∈ news', q.1 ≠ I) → Sim s s' → Fr h₀ L s'.heap (fun y => if y = x then some v else m' y) → News h₀ L s'.heap ((I, o) :: news') →
      Go (wpAny (model prog w) A (execs body (envX cn cs L fa cd cl)) (fun f s₃ => match f with
        | .next | .cont => ∃ m₃ news₃, J (j + 1) m₃ news₃ ∧ (∀ q ∈ news₃, q.1 ≠ I) ∧ Sim s s₃ ∧ Fr h₀ L s₃.heap m₃ ∧ News h₀ L s₃.heap ((I, o) :: news₃)
        | .brk => R (.ok .next) s₃
        | .ret v => R (.ok (.ret v)) s₃) (notedBy (model prog w) A (envX cn cs L fa cd cl) fun e s' => R (.error e) s') s'))
    (done : ∀ s' m' news', J vs.length m' news' → Sim s s' → Fr h₀ L s'.heap m' → News h₀ L s'.heap news' → Go (R (.ok .next) s'))
    (hk : cs.kind = .function := by rfl) (hx : (envX cn cs L fa cd cl).kindOf x = some .local := by rfl) :
    codeAny (model prog w) A (.forLoop (.Name x px) (.ref I) body [] (envX cn cs L fa cd cl)) R s := by
  have hlI : l ≠ I := fun e => hIn _ (hJ _ _ _ h0) e
  have W := Walks.list (prog := prog) (w := w) hh I l hlI vs.toArray
  refine codeAny_forLoop_any (fun n s' => ∃ j m' news' o, n = vs.length + 1 - j ∧ j ≤ vs.length ∧ J j m' news' ∧ (∀ q ∈ news', q.1 ≠ I) ∧ Sim s s' ∧ Fr h₀ L s'.heap m' ∧ News h₀ L s'.heap ((I, o) :: news') ∧ s'.heap.IsListIter I l j) ?_ (vs.length + 1)
    ⟨0, m, news, o0, rfl, Nat.zero_le _, h0, hIn, Sim.refl _, F, N0, it0⟩
  rintro n s' ⟨j, m', news', o, rfl, hj, hJ', hn, hs, F', N', it⟩
  have hl : s'.heap.IsList l vs.toArray := News.isList N' (.tail _ (hJ _ _ _ hJ'))
  rcases Nat.lt_or_eq_of_le hj with hlt | rfl
  · refine W.item j s' _ _ (by simpa using hlt) ⟨it, hl⟩ (fun v h₁ tk₁ hv st₁ k₁ => ?_)
    have hv' : vs[j]? = some v := by simpa using hv
    obtain ⟨o₁, ho₁, hc₁, hd₁⟩ := st₁.1
    have F₁ := fr_but F' N' k₁
    have N₁ := news_but N' hn k₁ ho₁
    dsimp only
    refine wpAny_of_eq (rfl : letOwnedTupleGo (.Name x px) (.ref I) v = pure ()) ?_
    refine wpAny_assign_Name ?_
    refine storeX_L (s := { s' with heap := h₁, toks := tk₁ }) F₁ N₁ (fun h₂ F₂ N₂ => ?_) hk hx
    have g := (step j { s' with heap := h₂, toks := tk₁ + 1 } m' news' v o₁ hv' hJ' hn hs F₂ N₂).go
    refine wpAny_mono g (fun f s₃ h₃ => ?_) fun _ _ z => z
    cases f with
    | next =>
      obtain ⟨m₃, news₃, a1, a2, a3, a4, a5⟩ := h₃
      exact ⟨vs.length + 1 - (j + 1), by omega, j + 1, m₃, news₃, o₁, rfl, hlt, a1, a2, a3, a4, a5, ⟨o₁, (a5 _ (.head _)).1, hc₁, hd₁⟩⟩
    | cont =>
      obtain ⟨m₃, news₃, a1, a2, a3, a4, a5⟩ := h₃
      exact ⟨vs.length + 1 - (j + 1), by omega, j + 1, m₃, news₃, o₁, rfl, hlt, a1, a2, a3, a4, a5, ⟨o₁, (a5 _ (.head _)).1, hc₁, hd₁⟩⟩
    | brk => exact h₃
    | ret v => exact h₃
  · have it' : s'.heap.IsListIter I l vs.toArray.size := by simpa using it
    refine W.done s' _ _ ⟨it', hl⟩ (fun h₁ tk₁ k₁ => ?_)
    dsimp only
    refine wpAny_execs_nil ?_
    have F₁ := fr_but F' N' k₁
    have N₁ : News h₀ L h₁ news' := fun q hq => ⟨k₁ _ _ (fun hb => hn q hq (List.mem_singleton.mp hb)) (N' q (.tail _ hq)).1, (N' q (.tail _ hq)).2⟩
    exact (done { s' with heap := h₁, toks := tk₁ } m' news' hJ' hs F₁ N₁).go

/-- the iterator of a list, onto the ledger -/
theorem list_iter_N {Q : Value → Shared → Prop} (F : Fr h₀ L s.heap m) (N0 : News h₀ L s.heap news) (hl : s.heap.IsList l vs.toArray)
    (k : ∀ I h' o, Fr h₀ L h' m → News h₀ L h' ((I, o) :: news) → (∀ q ∈ news, q.1 ≠ I) → h'.IsListIter I l 0 → Q (.ref I) { s with heap := h' }) :
    wpAny (model prog w) A (pyIter (.ref l)) Q E s := by
  refine wpAny_pyIter_list hl ?_
  have st : ∀ b o, s.heap.get? b = some o → (s.heap.push { cls := .type "list_iterator", data := .fields #[.ref l, rawInt 0] }).get? b = some o := fun b o e => Heap.get?_push_of_some _ e
  refine k _ _ _ (fr_stays F st) (news_add F (news_stays N0 st) (Heap.get?_push_size _ rfl) (fresh_size (Nat.le_refl _))) ?_ ⟨_, Heap.get?_push_size _ rfl, rfl, rfl⟩
  intro q hq e
  have h1 := Heap.lt_size (N0 q hq).1
  rw [e] at h1
  exact Nat.lt_irrefl _ h1
end
end Mine
/- texts by their lists of signs -/
namespace Mine
def mkS (l : List Nat) : Str := ⟨l.toArray⟩
theorem mkS_append (a b : List Nat) : mkS a ++ mkS b = mkS (a ++ b) := by
  show (⟨a.toArray ++ b.toArray⟩ : Str) = ⟨(a ++ b).toArray⟩
  rw [List.append_toArray]
theorem mkS_length (a : List Nat) : (mkS a).length = a.length := by simp [mkS, Str.length]
theorem mkS_cps (a : List Nat) : (mkS a).cps.toList = a := by simp [mkS]
theorem mkS_eq (a b : List Nat) : (mkS a == mkS b) = decide (a = b) := by
  rw [Bool.eq_iff_iff, beq_iff_eq, decide_eq_true_eq]
  constructor
  · intro h
    have := congrArg (fun s : Str => s.cps.toList) h
    simpa [mkS] using this
  · intro h; rw [h]
theorem mkS_of (x : Str) : x = mkS x.cps.toList := by
  obtain ⟨c⟩ := x
  simp [mkS]
theorem blanks_mkS (n : Nat) : blanks n = mkS (List.replicate n 32) := rfl

section
variable {prog : Program} {w : World} {A : Around} {E : Value → Shared → Prop} {s : Shared} {Q : Value → Shared → Prop} {a b : List Nat} {t u : Tok}
theorem addS (h : ∀ t' tk, Q (.str (mkS (a ++ b)) t') { s with toks := tk }) (hsz : a.length + b.length ≤ 100000) : wpAny (model prog w) A (binaryOp .Add (.str (mkS a) t) (.str (mkS b) u)) Q E s := by
  have hsl : sizeLine = 16777216 := rfl
  refine PyProof.Rows.add_str (fun t' tk => ?_) (by rw [mkS_length, mkS_length]; omega)
  rw [mkS_append]; exact h t' tk
theorem iaddS (h : ∀ t' tk, Q (.str (mkS (a ++ b)) t') { s with toks := tk }) (hsz : a.length + b.length ≤ 100000) : wpAny (model prog w) A (inplaceOp .Add (.str (mkS a) t) (.str (mkS b) u)) Q E s := by
  have hsl : sizeLine = 16777216 := rfl
  refine PyProof.Rows.iadd_str (fun t' tk => ?_) (by rw [mkS_length, mkS_length]; omega)
  rw [mkS_append]; exact h t' tk
theorem lenS (hsz : a.length ≤ 100000) (h : ∀ t' tk, Q (.int (a.length : Nat) t') { s with toks := tk }) : wpAny (model prog w) A (call (.builtin "len") [.str (mkS a) t]) Q E s := by
  refine PyProof.Rows.len_str (by rw [mkS_length]; omega) ?_
  rw [mkS_length]; exact h _ _
theorem mulS {n : Int} (h0 : 0 ≤ n) (h1 : n ≤ 1000) (h : ∀ t' k, Q (.str (mkS (List.replicate n.toNat 32)) t') { s with toks := k }) :
    wpAny (model prog w) A (binaryOp .Mult (.str (Str.ofString " ") t) (.int n u)) Q E s := mul_blank h0 (by omega) h
theorem eqS (h : Q (.bool (decide (a = b))) s) : wpAny (model prog w) A (compareOp .Eq (.str (mkS a) t) (.str (mkS b) u)) Q E s := by
  refine PyProof.Rows.eq_str ?_
  rw [mkS_eq]; exact h
theorem neS (h : Q (.bool (!decide (a = b))) s) : wpAny (model prog w) A (compareOp .NotEq (.str (mkS a) t) (.str (mkS b) u)) Q E s := by
  refine PyProof.Rows.ne_str ?_
  have e : (mkS a != mkS b) = !decide (a = b) := by rw [bne, mkS_eq]
  rw [e]; exact h

theorem fits_of {i : Int} (h0 : -1000000 ≤ i) (h1 : i ≤ 1000000) : fitsSsize i = true := by
  unfold fitsSsize
  simp only [Bool.not_eq_true', Bool.or_eq_false_iff, decide_eq_false_iff_not]
  omega
theorem itemS {value slice : Expr} {k : Nat} (hk : k < a.length) (hsz : a.length ≤ 100000) (h : ∀ t' tk, Q (.str (mkS [a[k]]) t') { s with toks := tk })
    (hs : subscripted slice false (.str (mkS a) t) (.int (k : Int) u) = operate [.str (mkS a) t, .int (k : Int) u] (getItem (.str (mkS a) t) (.int (k : Int) u)) := by with_unfolding_all rfl)
    (ht : ∀ r, letTemporaryGo value (.str (mkS a) t) r = pure () := by intro _; with_unfolding_all rfl) :
    wpAny (model prog w) A (subscriptTail value slice (.str (mkS a) t) (.int (k : Int) u)) Q E s := by
  refine item_str (fits_of (by omega) (by omega)) (by omega) (by rw [mkS_length]; omega) (fun _ => ?_) hs ht
  have e : Txt.item (mkS a) (k : Int) = mkS [a[k]] := by
    have hi : seqIndex? (k : Int) (mkS a).length = some k := by
      rw [seqIndex_of (by omega) (by rw [mkS_length]; omega)]; simp
    have : Txt.charAt (mkS a) (k : Int) = (mkS a).cps[k]? := by unfold Txt.charAt; rw [hi]; rfl
    unfold Txt.item
    rw [this, ← Array.getElem?_toList, mkS_cps, List.getElem?_eq_getElem hk]
    rfl
  rw [e]; exact h _ _

variable {h₀ : Heap} {L : Addr} {m : Str → Option Value} {news : List (Addr × Obj)}
/-- x[:k] -/
theorem slice_to (k : Nat) (hk : k ≤ a.length) : Txt.slice (mkS a) none (some (k : Int)) = mkS (a.take k) := by
  have e := eq_of_beq (slice_closes_toL (x := mkS a) (j := (k : Int)) (by omega) (by rw [mkS_length]; omega))
  rw [e, mkS_cps]
  simp [mkS]
/-- x[:-k] -/
theorem slice_to_neg (k : Nat) (h0 : 0 < k) (hk : k ≤ a.length) : Txt.slice (mkS a) none (some (-(k : Int))) = mkS (a.take (a.length - k)) := by
  have e := eq_of_beq (slice_closes_to_neg (x := mkS a) (j := -(k : Int)) (k := ((a.length - k : Nat) : Int)) (by omega) (by rw [mkS_length]; omega) (by rw [mkS_length]; omega))
  rw [e, mkS_cps]
  simp [mkS]
/-- x[-k:] -/
theorem slice_from_neg (k : Nat) (h0 : 0 < k) (hk : k ≤ a.length) : Txt.slice (mkS a) (some (-(k : Int))) none = mkS (a.drop (a.length - k)) := by
  have e := eq_of_beq (slice_closes_from_neg (x := mkS a) (i := -(k : Int)) (a := ((a.length - k : Nat) : Int)) (b := (a.length : Int)) (by omega) (by rw [mkS_length]; omega) (by rw [mkS_length]; omega) (by rw [mkS_length]))
  rw [e, mkS_cps]
  simp [mkS]
  rw [List.take_of_length_le (by rw [List.length_drop]; omega)]
/-- x[i:j] -/
theorem slice_mid (i j : Nat) (h0 : i ≤ j) (hk : j ≤ a.length) : Txt.slice (mkS a) (some (i : Int)) (some (j : Int)) = mkS ((a.drop i).take (j - i)) := by
  have e := eq_of_beq (slice_closesL (x := mkS a) (i := (i : Int)) (j := (j : Int)) (by omega) (by omega) (by rw [mkS_length]; omega))
  rw [e, mkS_cps]
  simp only [mkS]
  rw [Int.toNat_natCast, show ((j : Int) - i).toNat = j - i by omega]
end
end Mine
/- the plain side of 03 -/
namespace Mine

/-- what the generator tells, in places -/
def G (ns : List Int) (b : Bool) (j : Nat) : Option Int := if j < ns.length then ns[j]? else if b then some (lastI ns) else none
def Sized (ns : List Int) : Prop := ns ≠ [] ∧ ∀ x ∈ ns, 1 ≤ x ∧ x ≤ 5
def IsEnd (e : List Int) : Prop := e = [0] ∨ e = [127] ∨ e = []

theorem tell_end {e : List Int} (he : IsEnd e) (x : Int) (j : Nat) : tell e (some x) j = if decide (e.take 1 = [0]) then some x else none := by
  rcases he with rfl | rfl | rfl <;> simp [tell]
theorem tell_app {e : List Int} (he : IsEnd e) : ∀ {ns : List Int} {last : Option Int} {x : Int} {j : Nat}, (∀ x ∈ ns, 1 ≤ x ∧ x ≤ 5) → (ns = [] → last = some x) → (ns ≠ [] → x = lastI ns) →
    tell (ns ++ e) last j = if j < ns.length then ns[j]? else if decide (e.take 1 = [0]) then some x else none
  | [], last, x, j, _, h0, _ => by rw [h0 rfl, List.nil_append, tell_end he]; simp
  | y :: ns, last, x, j, h, _, h1 => by
    have hy := h y (.head _)
    rw [List.cons_append]
    unfold tell
    rw [if_neg (by omega), if_neg (by omega)]
    cases j with
    | zero => simp
    | succ j =>
      dsimp only
      rw [tell_app he (x := x) (fun z hz => h z (.tail _ hz)) (fun e => ?_) (fun e => ?_)]
      · simp
      · subst e; rw [h1 (by simp)]; rfl
      · rw [h1 (by simp)]
        unfold lastI
        have hp : 0 < ns.length := List.length_pos_iff.mpr e
        rw [List.length_cons, show ns.length + 1 - 1 = (ns.length - 1) + 1 by omega, List.getD_cons_succ]
theorem tell_eq {ns e : List Int} (hs : Sized ns) (he : IsEnd e) (j : Nat) : tell (ns ++ e) none j = G ns (decide (e.take 1 = [0])) j := by
  rw [tell_app he (x := lastI ns) hs.2 (fun h => absurd h hs.1) (fun _ => rfl)]; rfl

theorem lastI_mem {ns : List Int} (h : ns ≠ []) : lastI ns ∈ ns := by
  have hp : 0 < ns.length := List.length_pos_iff.mpr h
  unfold lastI
  rw [List.getD_eq_getElem?_getD, List.getElem?_eq_getElem (by omega), Option.getD_some]
  exact List.getElem_mem _
theorem G_in {ns : List Int} {b : Bool} {j : Nat} {x : Int} (hs : Sized ns) (h : G ns b j = some x) : 1 ≤ x ∧ x ≤ 5 := by
  unfold G at h
  split at h
  · exact hs.2 x (List.mem_of_getElem? h)
  · split at h
    · cases h; exact hs.2 _ (lastI_mem hs.1)
    · cases h
/-- the sums along a row -/
def run (f : Nat → Option Int) : Int → Nat → Nat → List Int
  | _, _, 0 => []
  | tot, j, n + 1 => match f j with
    | none => []
    | some x => (tot + x) :: run f (tot + x) (j + 1) n
theorem run_rises {f : Nat → Option Int} (hf : ∀ j x, f j = some x → 1 ≤ x ∧ x ≤ 5) : ∀ (n : Nat) (tot : Int) (j : Nat), (run f tot j n).Pairwise (· < ·) ∧ ∀ y ∈ run f tot j n, tot < y ∧ y ≤ tot + 5 * n
  | 0, _, _ => by simp [run]
  | n + 1, tot, j => by
    unfold run
    cases e : f j with
    | none => simp
    | some x =>
      have hx := hf j x e
      obtain ⟨h1, h2⟩ := run_rises hf n (tot + x) (j + 1)
      refine ⟨List.pairwise_cons.mpr ⟨fun y hy => (h2 y hy).1, h1⟩, fun y hy => ?_⟩
      rcases List.mem_cons.mp hy with rfl | hy
      · omega
      · have := h2 y hy; omega
/-- the sums of a row, by the row itself -/
def sumsR : Int → List Int → List Int
  | _, [] => []
  | tot, x :: r => (tot + x) :: sumsR (tot + x) r
theorem sumsR_eq : ∀ (tot : Int) (ns : List Int), sumsR tot ns = (List.range ns.length).map fun k => tot + (ns.take (k + 1)).sum
  | _, [] => rfl
  | tot, x :: r => by
    rw [sumsR, sumsR_eq (tot + x) r, List.length_cons, List.range_succ_eq_map, List.map_cons, List.map_map]
    congr 1
    · simp
    · refine List.map_congr_left fun k _ => ?_
      simp only [Function.comp, Nat.succ_eq_add_one, List.take_succ_cons, List.sum_cons]
      omega
theorem sumsR_zero (ns : List Int) : sumsR 0 ns = sumsOf ns := by
  rw [sumsR_eq]
  unfold sumsOf
  refine List.map_congr_left fun k _ => ?_
  omega
theorem run_row {f : Nat → Option Int} : ∀ (ns : List Int) (tot : Int) (j n : Nat), (∀ i, i < ns.length → f (j + i) = ns[i]?) → run f tot j (ns.length + n) = sumsR tot ns ++ run f (tot + ns.sum) (j + ns.length) n
  | [], tot, j, n, _ => by simp [sumsR]
  | x :: r, tot, j, n, h => by
    have h0 : f j = some x := by simpa using h 0 (by simp)
    rw [List.length_cons, show r.length + 1 + n = (r.length + n) + 1 by omega]
    have hu : run f tot j (r.length + n + 1) = (tot + x) :: run f (tot + x) (j + 1) (r.length + n) := by
      rw [run, h0]
    rw [hu, run_row r (tot + x) (j + 1) n (fun i hi => by have := h (i + 1) (by simpa using hi); rw [show j + 1 + i = j + (i + 1) by omega, this]; simp), sumsR, List.sum_cons, List.cons_append, show tot + x + r.sum = tot + (x + r.sum) by omega, show j + 1 + r.length = j + (r.length + 1) by omega]
theorem run_none {f : Nat → Option Int} {tot : Int} {j n : Nat} (h : f j = none) : run f tot j n = [] := by
  cases n with
  | zero => rfl
  | succ n => unfold run; rw [h]
theorem run_const {f : Nat → Option Int} {x : Int} : ∀ (n : Nat) (tot : Int) (j : Nat), (∀ i, j ≤ i → f i = some x) → run f tot j n = (List.range n).map fun i => tot + ((i : Nat) + 1) * x
  | 0, _, _, _ => rfl
  | n + 1, tot, j, h => by
    unfold run
    rw [h j (Nat.le_refl _)]
    dsimp only
    rw [run_const n (tot + x) (j + 1) (fun i hi => h i (by omega)), List.range_succ_eq_map, List.map_cons, List.map_map]
    congr 1
    · simp
    · refine List.map_congr_left fun k _ => ?_
      simp only [Function.comp, Nat.succ_eq_add_one]
      rw [Int.natCast_add, Int.add_mul ((k : Int) + ((1 : Nat) : Int)) 1 x]
      simp only [Int.natCast_one]
      rw [Int.one_mul, Int.add_assoc, Int.add_comm x]

theorem sum_ge : ∀ {ns : List Int}, (∀ x ∈ ns, 1 ≤ x ∧ x ≤ 5) → (ns.length : Int) ≤ ns.sum
  | [], _ => by simp
  | x :: r, h => by
    have h1 := h x (.head _)
    have h2 := sum_ge (ns := r) fun y hy => h y (.tail _ hy)
    simp only [List.length_cons, List.sum_cons]
    omega

def standsG (place : Int) (ns : List Int) (b : Bool) : Bool := (sumsOf ns).any (· == place) || (b && (decide (0 < place - ns.sum) && ((place - ns.sum).fmod (lastI ns) == 0)))
theorem stands_run {ns : List Int} {b : Bool} {M : Nat} {place : Int} (hs : Sized ns) (hM : ns.length ≤ M) (hp : place < M) : standsG place ns b = decide (place ∈ run (G ns b) 0 0 M) := by
  obtain ⟨n, rfl⟩ : ∃ n, M = ns.length + n := ⟨M - ns.length, by omega⟩
  have hl := hs.2 _ (lastI_mem hs.1)
  have hge := sum_ge hs.2
  rw [run_row ns 0 0 n (fun i hi => by rw [Nat.zero_add]; simp [G, hi]), sumsR_zero, Int.zero_add, Nat.zero_add]
  rw [Bool.eq_iff_iff, decide_eq_true_eq, List.mem_append]
  unfold standsG
  rw [Bool.or_eq_true, List.any_eq_true]
  have h1 : (∃ x, x ∈ sumsOf ns ∧ (x == place) = true) ↔ place ∈ sumsOf ns := by
    constructor
    · rintro ⟨x, hx, e⟩
      rw [beq_iff_eq] at e; rw [← e]; exact hx
    · intro h; exact ⟨place, h, by simp⟩
  rw [h1]
  refine or_congr Iff.rfl ?_
  cases b with
  | false =>
    rw [run_none (by simp [G])]
    simp
  | true =>
    rw [run_const n ns.sum ns.length (x := lastI ns) (fun i hi => by simp [G, Nat.not_lt.mpr hi])]
    simp only [Bool.true_and, Bool.and_eq_true, decide_eq_true_eq, beq_iff_eq, List.mem_map, List.mem_range]
    constructor
    · rintro ⟨h2, h3⟩
      have hdvd : lastI ns ∣ (place - ns.sum) := Int.dvd_of_fmod_eq_zero h3
      obtain ⟨k, hk⟩ := hdvd
      have hk1 : 1 ≤ k := by
        rcases Int.lt_or_le k 1 with h | h
        · have : lastI ns * k ≤ 0 := Int.mul_nonpos_of_nonneg_of_nonpos (by omega) (by omega)
          omega
        · exact h
      have hk2 : k ≤ lastI ns * k := by
        have := Int.mul_le_mul_of_nonneg_right (c := k) hl.1 (by omega)
        rw [Int.one_mul] at this; exact this
      refine ⟨(k - 1).toNat, by omega, ?_⟩
      rw [show (((k - 1).toNat : Nat) : Int) + 1 = k by omega, Int.mul_comm, ← hk]
      omega
    · rintro ⟨i, hi, rfl⟩
      have e : ns.sum + ((i : Int) + 1) * lastI ns - ns.sum = ((i : Int) + 1) * lastI ns := by omega
      rw [e]
      refine ⟨Int.mul_pos (by omega) (by omega), ?_⟩
      rw [Int.fmod_eq_emod_of_nonneg _ (by omega)]
      exact Int.mul_emod_left _ _


/-- figures with separators; r figures stand to the right of them -/
def P (st : Int → Bool) (sp : List Nat) : Bool → List Nat → Nat → List Nat
  | _, [], _ => []
  | first, c :: l, r => (if !first && st ((l.length + 1 + r : Nat) : Int) then sp else []) ++ c :: P st sp false l r
section
variable {st : Int → Bool} {sp : List Nat}
theorem P_append : ∀ (l1 l2 : List Nat) (first : Bool) (r : Nat), P st sp first (l1 ++ l2) r = P st sp first l1 (l2.length + r) ++ P st sp (first && l1.isEmpty) l2 r
  | [], l2, first, r => by simp [P]
  | c :: l1, l2, first, r => by
    simp only [List.cons_append, P, P_append l1 l2 false r, List.length_append, List.isEmpty_cons, Bool.and_false, Bool.false_and]
    rw [show l1.length + l2.length + 1 + r = l1.length + 1 + (l2.length + r) by omega]
    simp
theorem P_false : ∀ {l : List Nat} {r : Nat}, (∀ i : Nat, r < i → i ≤ r + l.length → st (i : Int) = false) → P st sp false l r = l
  | [], _, _ => rfl
  | c :: l, r, h => by
    simp only [P, Bool.not_false, Bool.true_and]
    rw [h (l.length + 1 + r) (by omega) (by simp; omega), P_false (fun i h1 h2 => h i h1 (by simp; omega))]
    simp
theorem P_true {l : List Nat} {r : Nat} (h : ∀ i : Nat, r < i → i < r + l.length → st (i : Int) = false) : P st sp true l r = l := by
  cases l with
  | nil => rfl
  | cons c l =>
    simp only [P, Bool.not_true, Bool.false_and]
    rw [P_false (fun i h1 h2 => h i h1 (by simp; omega))]
    simp
theorem P_piece {l : List Nat} {r : Nat} (hl : l ≠ []) (h1 : st ((l.length + r : Nat) : Int) = true) (h : ∀ i : Nat, r < i → i < r + l.length → st (i : Int) = false) : P st sp false l r = sp ++ l := by
  cases l with
  | nil => exact absurd rfl hl
  | cons c l =>
    simp only [P, Bool.not_false, Bool.true_and]
    rw [show (((c :: l).length + r : Nat) : Int) = ((l.length + 1 + r : Nat) : Int) by simp] at h1
    rw [h1, P_false (fun i h1 h2 => h i h1 (by simp; omega))]
    simp
end

/-- the pieces behind each other, a separator ahead of each -/
def tailOf (sp : List Nat) (ps : List (List Nat)) : List Nat := (ps.reverse.map (sp ++ ·)).flatten
theorem tailOf_snoc (sp : List Nat) (ps : List (List Nat)) (p : List Nat) : tailOf sp (ps ++ [p]) = sp ++ p ++ tailOf sp ps := by
  simp [tailOf]
def bareOf (ps : List (List Nat)) : List Nat := ps.reverse.flatten
theorem bareOf_snoc (ps : List (List Nat)) (p : List Nat) : bareOf (ps ++ [p]) = p ++ bareOf ps := by simp [bareOf]
theorem tailOf_length (sp : List Nat) : ∀ (ps : List (List Nat)), (tailOf sp ps).length = sp.length * ps.length + (bareOf ps).length
  | [] => by simp [tailOf, bareOf]
  | p :: ps => by
    have := tailOf_length sp ps
    simp only [tailOf, bareOf, List.reverse_cons, List.map_append, List.map_cons, List.map_nil, List.flatten_append, List.flatten_cons, List.flatten_nil, List.append_nil, List.length_append, List.length_cons] at this ⊢
    rw [this, Nat.mul_add]
    omega

/-- what holds between two cuts -/
structure Cut (f : Nat → Option Int) (st : Int → Bool) (sp fs : List Nat) (j : Nat) (left : List Nat) (ps : List (List Nat)) : Prop where
  whole : fs = left ++ bareOf ps
  rest : left ≠ []
  count : ps.length = j
  long : j ≤ (bareOf ps).length
  full : ∀ p ∈ ps, p ≠ []
  told : P st sp true left (bareOf ps).length ++ tailOf sp ps = P st sp true fs 0
  next : ∀ r : Nat, (bareOf ps).length < r → r < 100 → st (r : Int) = decide ((r : Int) ∈ run f ((bareOf ps).length : Int) j (100 - j))
theorem Cut.step {f : Nat → Option Int} {st : Int → Bool} {sp fs : List Nat} {j x : Nat} {left : List Nat} {ps : List (List Nat)} (hf : ∀ j x, f j = some x → 1 ≤ x ∧ x ≤ 5) (C : Cut f st sp fs j left ps) (hfs : fs.length ≤ 30)
    (hx : f j = some (x : Int)) (hlt : x < left.length) : Cut f st sp fs (j + 1) (left.take (left.length - x)) (ps ++ [left.drop (left.length - x)]) := by
  have h1 := hf j _ hx
  have hw := congrArg List.length C.whole
  rw [List.length_append] at hw
  have hj := C.long
  have hdl : (left.drop (left.length - x)).length = x := by rw [List.length_drop]; omega
  have hsp : run f ((bareOf ps).length : Int) j (100 - j) = (((bareOf ps).length : Int) + x) :: run f (((bareOf ps).length : Int) + x) (j + 1) (100 - (j + 1)) := by
    rw [show 100 - j = (100 - (j + 1)) + 1 by omega, run, hx]
  have hr := run_rises hf (100 - (j + 1)) (((bareOf ps).length : Int) + x) (j + 1)
  have hbl : (bareOf (ps ++ [left.drop (left.length - x)])).length = (bareOf ps).length + x := by rw [bareOf_snoc, List.length_append, hdl]; omega
  have hno : ∀ i : Nat, (bareOf ps).length < i → i < (bareOf ps).length + x → st (i : Int) = false := fun i a b => by
    rw [C.next i a (by omega), hsp, decide_eq_false_iff_not]
    intro hm
    rcases List.mem_cons.mp hm with e | hm
    · omega
    · have := (hr.2 _ hm).1; omega
  have hyes : st (((bareOf ps).length + x : Nat) : Int) = true := by
    rw [C.next _ (by omega) (by omega), hsp, decide_eq_true_eq]
    refine List.mem_cons.mpr (.inl ?_)
    omega
  refine ⟨?_, ?_, ?_, ?_, ?_, ?_, ?_⟩
  · rw [bareOf_snoc, ← List.append_assoc, List.take_append_drop]; exact C.whole
  · intro e
    have := congrArg List.length e
    rw [List.length_take, List.length_nil] at this
    omega
  · rw [List.length_append, C.count]; rfl
  · rw [hbl]; omega
  · intro p hp
    rcases List.mem_append.mp hp with hp | hp
    · exact C.full p hp
    · rw [List.mem_singleton] at hp; subst hp
      intro e; rw [e] at hdl; simp at hdl; omega
  · rw [← C.told, tailOf_snoc, hbl]
    have e := P_append (st := st) (sp := sp) (left.take (left.length - x)) (left.drop (left.length - x)) true (bareOf ps).length
    rw [List.take_append_drop, hdl] at e
    have hne : (left.take (left.length - x)).isEmpty = false := by
      rw [List.isEmpty_eq_false_iff]
      intro e
      have := congrArg List.length e
      rw [List.length_take, List.length_nil] at this
      omega
    have e9 : (left.drop (left.length - x)) ≠ [] := by intro e; rw [e] at hdl; simp at hdl; omega
    rw [e, hne, Bool.and_false, P_piece e9 (by rw [hdl, Nat.add_comm]; exact hyes) (by rw [hdl]; exact hno), Nat.add_comm x]
    simp
  · intro r a b
    rw [hbl] at a ⊢
    rw [C.next r (by omega) b, hsp]
    have e : (((bareOf ps).length + x : Nat) : Int) = ((bareOf ps).length : Int) + x := by omega
    rw [e]
    have : ((r : Int) ∈ (((bareOf ps).length : Int) + x) :: run f (((bareOf ps).length : Int) + x) (j + 1) (100 - (j + 1))) ↔ (r : Int) ∈ run f (((bareOf ps).length : Int) + x) (j + 1) (100 - (j + 1)) := by
      rw [List.mem_cons]
      constructor
      · rintro (h | h)
        · omega
        · exact h
      · exact .inr
    simp only [this]
theorem Cut.close {f : Nat → Option Int} {st : Int → Bool} {sp fs : List Nat} {j : Nat} {left : List Nat} {ps : List (List Nat)} (hf : ∀ j x, f j = some x → 1 ≤ x ∧ x ≤ 5) (C : Cut f st sp fs j left ps) (hfs : fs.length ≤ 30)
    (he : ∀ x : Int, f j = some x → (left.length : Int) ≤ x) : left ++ tailOf sp ps = P st sp true fs 0 := by
  have hw := congrArg List.length C.whole
  rw [List.length_append] at hw
  have hj := C.long
  rw [← C.told, P_true]
  intro i a b
  rw [C.next i a (by omega), decide_eq_false_iff_not]
  rw [show 100 - j = (100 - (j + 1)) + 1 by omega]
  intro hm
  cases e : f j with
  | none => rw [run, e] at hm; cases hm
  | some x =>
    have hx := he x e
    rw [run, e] at hm
    rcases List.mem_cons.mp hm with h | h
    · omega
    · have := ((run_rises hf (100 - (j + 1)) (((bareOf ps).length : Int) + x) (j + 1)).2 _ h).1; omega
theorem Cut.start {ns : List Int} {b : Bool} {sp fs : List Nat} (hs : Sized ns) (hl : ns.length ≤ 3) (hne : fs ≠ []) : Cut (G ns b) (fun r => standsG r ns b) sp fs 0 fs [] where
  whole := by simp [bareOf]
  rest := hne
  count := rfl
  long := Nat.zero_le _
  full := fun _ h => nomatch h
  told := by simp [tailOf, bareOf]
  next := fun r _ h => stands_run hs (by omega) (by omega)

/-- a text between blanks -/
def pb (A : Nat) (w : List Nat) (B : Nat) : List Nat := List.replicate A 32 ++ w ++ List.replicate B 32
def Solid (w : List Nat) : Prop := (∃ c r, w = c :: r ∧ c ≠ 32) ∧ ∃ r d, w = r ++ [d] ∧ d ≠ 32
theorem pb_length (A : Nat) (w : List Nat) (B : Nat) : (pb A w B).length = A + w.length + B := by simp [pb]; omega
theorem lead_rep (A : Nat) {c : Nat} {r : List Nat} (hc : c ≠ 32) : lead (List.replicate A 32 ++ c :: r) = A := by
  unfold lead
  induction A with
  | zero => simp [hc]
  | succ A ih => rw [List.replicate_succ, List.cons_append, List.takeWhile_cons, if_pos (by simp), List.length_cons, ih]
theorem lead_pb {A B : Nat} {w : List Nat} (h : Solid w) : lead (pb A w B) = A := by
  obtain ⟨⟨c, r, rfl, hc⟩, _⟩ := h
  unfold pb
  rw [List.append_assoc, List.cons_append]
  exact lead_rep A hc
theorem trail_pb {A B : Nat} {w : List Nat} (h : Solid w) : trail (pb A w B) = B := by
  obtain ⟨_, ⟨r, d, rfl, hd⟩⟩ := h
  unfold pb trail
  simp only [List.reverse_append, List.reverse_replicate, List.reverse_cons, List.nil_append, List.append_assoc, List.cons_append]
  exact lead_rep B hd
theorem solid_pos {w : List Nat} (h : Solid w) : 0 < w.length := by
  obtain ⟨⟨c, r, rfl, hc⟩, _⟩ := h
  simp
theorem strip_pb {A B n : Nat} {w : List Nat} (h : Solid w) : stripB (pb A w B) (n : Int) = some (min A n, A + w.length + B - min B (n - min A n)) := by
  have := solid_pos h
  unfold stripB
  rw [lead_pb h, pb_length, if_neg (by omega)]
  simp only [trail_pb h]
  rw [if_neg (by omega), if_neg (by omega)]
  simp
theorem pb_cut {A B a c : Nat} {w : List Nat} (ha : a ≤ A) (hc : c ≤ B) : ((pb A w B).drop a).take (A + w.length + B - c - a) = pb (A - a) w (B - c) := by
  unfold pb
  rw [List.append_assoc, List.drop_append, List.drop_replicate, List.length_replicate, show a - A = 0 by omega, List.drop_zero]
  rw [← List.append_assoc, List.take_append, List.take_of_length_le (by simp; omega), List.take_replicate]
  congr 2
  simp
  omega
end Mine
/- _law_parted: its sums -/
namespace Mine
def paB : List Stmt := fnBody PySem.Challenge.pw_dm0204_03 5
def paS : Scope := fnScope PySem.Challenge.pw_dm0204_03 5
abbrev paE (L f : Addr) (cd : Value) : Env := envOfC "_law_parted" paS L f cd

section
variable {prog : Program} {w : World} {A : Around} {E : Value → Shared → Prop} {s : Shared} {h₀ : Heap} {L fa : Addr} {m mg mb : Str → Option Value} {cd : Value} {Q : Flow → Shared → Prop} {p : Program} {loose : List Str} {news : List (Addr × Obj)}
  {ls : Addr} {vs : List Value} {ns : List Int} {el : Nat} {oc : Obj}

/-- sums = [sum(sizes[:k + 1]) for k in range(len(sizes))] -/
theorem pa_sums (F : Fr h₀ L s.heap m) (N : News h₀ L s.heap news) (X : (Mine.hd03.heap_39 w.params).In h₀) (T : TopRead p loose mg mb h₀)
    (hc : (L + 1, oc) ∈ news) (hd : oc.data = .cell (some (.ref ls))) (hR : (ls, listOf (List.toArray vs) el) ∈ news) (hI : IntsAre vs ns) (hx : ns.length ≤ 1000) (hh : A.handled = none)
    (k : ∀ h' tk D hs m' ep, Fr h₀ L h' m' → News h₀ L h' ((D, listOf (List.toArray hs) ep) :: news) → IntsAre hs (sumsOf ns) → m' "sums" = some (.ref D) → (∀ y, y ≠ ("sums" : Str) → m' y = m y) → wpAny (model prog w) A (execs (paB.drop 1) (paE L fa cd)) Q E { s with heap := h', toks := tk }) :
    wpAny (model prog w) A (execs paB (paE L fa cd)) Q E s := by
  have hsl : sizeLine = 16777216 := rfl
  have hvl : vs.length = ns.length := hI.length
  refine wpAny_execs_cons ?_
  refine wpAny_Assign_ListComp_free (cl := [("sizes", L + 1)]) (fun _ => true) (fun v y => ∃ k t u, v = .int k t ∧ y = .int ((ns.take (k.toNat + 1)).sum) u) rfl rfl (by decide) rfl (by decide) rfl rfl rfl ?_
  refine Call_ (nameX_B F X T rfl boot_range (by decide) ?_)
  refine PyProof.Rows.callWith_type1 (args_cons (Call_ (nameX_B F X T rfl boot_len (by decide) ?_)))
  refine callWith_builtin1 (args_cons (nameX_C N rfl hc hd (args_nil ?_)))
  refine len_list (News.isList N hR) (by simp only [List.size_toArray]; omega) (args_nil ?_)
  rw [List.size_toArray, hvl]
  refine range_iter (N := ns.length) (by omega) (fun I h₁ tk₁ st₁ hI0 hI2 it₁ => ?_)
  refine ⟨I, _, _, _, _, _, m, rfl, walks_lt (Walks.range hh I 0 1 ns.length), by omega, it₁, ?_, ?_, (F.ns.keeps st₁), ⟨?_, ?_⟩, ?_⟩
  · intro b hb
    rcases List.mem_cons.mp hb with rfl | hb
    · exact hI2
    · cases hb
  · intro hb
    rcases List.mem_cons.mp hb with hb | hb
    · obtain ⟨oL, _, _, hL, _⟩ := F.ns
      have hb' : L = I := hb
      rw [hb', hI0] at hL
      cases hL
    · cases hb
  · intro C i v s₃ m₃ E' hC hv hn hvx kp _
    exact wpAny_tests_nil ⟨rfl, keeps_refl' _⟩
  · intro C i v s₃ m₃ E' hC hv _ hn hvx kp _
    obtain ⟨hlt, t, rfl⟩ := hv
    have st₃ : ∀ b o, s.heap.get? b = some o → s₃.heap.get? b = some o := stays_but st₁ (in_one hI0) kp
    have F₃ : Fr h₀ C s₃.heap m₃ := ⟨hn, fun b o e => st₃ b o (F.keep b o e), Nat.le_trans F.above (Nat.le_trans (Nat.le_of_lt (by obtain ⟨oL, _, _, hL, _⟩ := F.ns; exact Heap.lt_size (st₁ _ _ hL))) hC)⟩
    have hcell : s₃.heap.get? (L + 1) = some oc := st₃ _ _ (N _ hc).1
    have hls : s₃.heap.IsList ls vs.toArray := ⟨_, st₃ _ _ (N _ hR).1, rfl, _, rfl⟩
    refine Call_ (Name_function_global rfl rfl (loadGlobal_builtin (T.g.keeps F₃.keep) (mg_none_of X T.g rfl) (T.b.keeps F₃.keep) ((T.builtins _ (by decide)).trans boot_sum) ?_))
    refine callWith_builtin1 (args_cons (Subscript_ (wpAny_Name (wpAny_loadName_cell rfl rfl rfl ⟨oc, hcell, hd⟩ ?_))))
    refine wpAny_Slice (evalPart_none_step (evalPart_some_step (wpAny_BinOp (wpAny_Name (wpAny_loadName_local rfl rfl hn hvx (wpAny_Constant_int (PyProof.Rows.add_int (evalPart_none_step ?_))))))))
    refine list_slice_stays (s := { s₃ with toks := _ }) hls .none (.int _ _) (fun D h₄ st₄ hD0 hD => args_nil ?_) (by simp only [List.size_toArray]; omega)
    have hI4 := kmk_upto (y := 0 + (i : Int) * 1 + 1) hI (by omega)
    have hl4 : h₄.IsList D (slicePick vs.toArray none (some (0 + (i : Int) * 1 + 1)) none).toList.toArray := by rw [Array.toArray_toList]; exact ⟨_, hD, rfl, _, rfl⟩
    refine sum_stays (s := { s₃ with heap := h₄, toks := _ }) hh hl4 hI4 (fun h₅ tk₅ t₅ st₅ => ⟨⟨_, _, t₅, rfl, ?_⟩, h₅, tk₅, rfl, fun b o e => st₅ b o (st₄ b o e)⟩)
    rw [show (0 + (i : Int) * 1 + 1).toNat = (0 + (i : Int) * 1).toNat + 1 by omega]
  · intro D h' tk ys us hD hlD hpD hlen' hP hF hn hk
    obtain ⟨ep, hpD⟩ := hpD
    have st' : ∀ b o, b ≠ L → s.heap.get? b = some o → h'.get? b = some o := fun b o hb e => hk b o hb (fun hb => by rcases List.mem_cons.mp hb with rfl | hb; (rw [hI0] at e; cases e); cases hb) (st₁ b o e)
    have hDs : s.heap.get? D = none := by
      cases e : s.heap.get? D with
      | none => rfl
      | some o => have := st₁ D o e; rw [hD] at this; cases this
    have hbase : ∀ b o, h₀.get? b = some o → b ≠ L := fun b o e hb => absurd (Heap.lt_size e) (Nat.not_lt.mpr (hb ▸ F.above))
    have F' : Fr h₀ L h' (fun z => if z = Str.ofString "sums" then some (Value.ref D) else m z) := ⟨hn, fun b o e => st' b o (hbase b o e) (F.keep b o e), F.above⟩
    have N' : News h₀ L h' news := fun q hq => ⟨st' _ _ (N q hq).2.1 (N q hq).1, (N q hq).2.1, (N q hq).2.2⟩
    rw [List.filter_eq_self.mpr (fun _ _ => rfl)] at hF
    have hI' := ints_of_paired (f := fun k => (ns.take (k.toNat + 1)).sum) (a := 0) hlen' (fun j v hj => (hP j v hj).2) hF
    have e : ((List.range ns.length).map fun (i : Nat) => (fun k : Int => (ns.take (k.toNat + 1)).sum) (0 + (i : Int))) = sumsOf ns := by
      unfold sumsOf
      refine List.map_congr_left fun i _ => ?_
      dsimp only
      rw [show (0 + (i : Int)).toNat = i by omega]
    rw [e] at hI'
    refine k h' tk D ys.toList _ ep F' (news_add F N' (by rw [Array.toArray_toList]; exact hpD) hDs) hI' rfl (fun y hy => if_neg hy)

end
end Mine
/- _law_parted: its loop, its contract -/
namespace Mine
def paFor : List Stmt := match paB.drop 2 with | .For _ _ b _ _ :: _ => b | _ => []
def paTest : Expr := match paFor.drop 2 with | .If t _ _ _ :: _ => t | _ => default
section
variable {prog : Program} {w : World} {A : Around} {E : Value → Shared → Prop} {s : Shared} {h₀ : Heap} {L fa : Addr} {m mg mb : Str → Option Value} {cd : Value} {Q : Flow → Shared → Prop} {p : Program} {loose : List Str} {news : List (Addr × Obj)}
  {ls D : Addr} {vs hs : List Value} {ns : List Int} {el ep : Nat} {oc : Obj} {b : Bool} {r : Int} {k : Nat} {tr tb tk0 : Tok}

theorem pa_test {whole : Sem Value} {Qb : Bool → Shared → Prop} (F : Fr h₀ L s.heap m) (N : News h₀ L s.heap news) (hc : (L + 1, oc) ∈ news) (hd : oc.data = .cell (some (.ref ls))) (hR : (ls, listOf (List.toArray vs) el) ∈ news) (hI : IntsAre vs ns) (hne : ns ≠ []) (hx : ns.length ≤ 1000) (hl0 : lastI ns ≠ 0)
    (hD : (D, listOf (List.toArray hs) ep) ∈ news) (hS : IntsAre hs (sumsOf ns)) (m1 : m "sums" = some (.ref D)) (m2 : m "endless" = some (.bool b)) (m3 : m "right" = some (.int r tr)) (m4 : m "beyond" = some (.int (r - ns.sum) tb)) (m5 : m "k" = some (.int (k : Int) tk0))
    (h : ∀ tk, Go (Qb (decide (0 < k) && standsG r ns b) { s with toks := tk })) :
    wpAny (model prog w) A (isTrue paTest (paE L fa cd) whole) Qb E s := by
  refine isTrue_and ?_
  refine wpAny_isTrue_Compare1 ?_
  refine nameX_L F m5 (wpAny_Constant_int (PyProof.Rows.gt_int (wpAny_truthy_bool ?_)))
  have ek : decide ((0 : Int) < (k : Int)) = decide (0 < k) := by simp
  rw [ek]
  cases h1 : decide (0 < k) with
  | false =>
    simp only [Bool.false_eq_true, if_false]
    have := h (s.toks + 1)
    rw [h1, Bool.false_and] at this
    exact this.go
  | true =>
    simp only [if_true]
    refine isTrue_and ?_
    refine isTrue_or ?_
    refine wpAny_isTrue_Compare1 ?_
    refine nameX_L F m3 (nameX_L F m1 ?_)
    refine in_list_ints (News.isList N hD) hS (wpAny_truthy_bool ?_)
    cases h2 : (sumsOf ns).any (· == r) with
    | true =>
      simp only [if_true]
      refine isTrue_and_nil ?_
      have := h (s.toks + 1)
      rw [h1, standsG, h2, Bool.true_or, Bool.and_true] at this
      exact this.go
    | false =>
      simp only [Bool.false_eq_true, if_false]
      refine isTrue_or ?_
      refine isTrue_and ?_
      refine isTrue_plain (nameX_L F m2 (wpAny_truthy_bool ?_))
      cases b with
      | false =>
        simp only [Bool.false_eq_true, if_false]
        refine isTrue_or_nil ?_
        simp only [Bool.false_eq_true, if_false]
        have := h (s.toks + 1)
        rw [h1, standsG, h2, Bool.false_and, Bool.or_false, Bool.and_false] at this
        exact this.go
      | true =>
        simp only [if_true]
        refine isTrue_and ?_
        refine wpAny_isTrue_Compare1 ?_
        refine nameX_L F m4 (wpAny_Constant_int (PyProof.Rows.gt_int (wpAny_truthy_bool ?_)))
        cases h3 : decide (0 < r - ns.sum) with
        | false =>
          simp only [Bool.false_eq_true, if_false]
          refine isTrue_or_nil ?_
          simp only [Bool.false_eq_true, if_false]
          have := h (s.toks + 1 + 1)
          rw [h1, standsG, h2, h3, Bool.false_and, Bool.and_false, Bool.or_false, Bool.and_false] at this
          exact this.go
        | true =>
          simp only [if_true]
          refine isTrue_and ?_
          refine wpAny_isTrue_Compare1 ?_
          refine wpAny_BinOp (nameX_L F m4 (Subscript_ (nameX_C N rfl hc hd (wpAny_UnaryOp (wpAny_Constant_int (PyProof.Rows.neg_int ?_))))))
          refine item_last (s := { s with toks := _ }) (News.isList N hR) hI hne (by omega) (fun t => mod_int' hl0 ?_)
          refine wpAny_Constant_int (PyProof.Rows.eq_int (wpAny_truthy_bool ?_))
          have := h (s.toks + 1 + 1 + 1 + 1 + 1 + 1)
          rw [h1, standsG, h2, h3, Bool.false_or, Bool.true_and, Bool.true_and, Bool.true_and] at this
          cases h4 : ((r - ns.sum).fmod (lastI ns) == 0) with
          | false =>
            rw [h4] at this
            simp only [Bool.false_eq_true, if_false]
            refine isTrue_or_nil ?_
            simp only [Bool.false_eq_true, if_false]
            exact this.go
          | true =>
            rw [h4] at this
            simp only [if_true]
            refine isTrue_and_nil ?_
            simp only [if_true]
            refine isTrue_and_nil ?_
            exact this.go

/-- a turn -/
theorem pa_turn {fs sp tx : List Nat} {t1 t2 t3 : Tok} (F : Fr h₀ L s.heap m) (N : News h₀ L s.heap news) (X : (Mine.hd03.heap_39 w.params).In h₀) (T : TopRead p loose mg mb h₀)
    (hc : (L + 1, oc) ∈ news) (hd : oc.data = .cell (some (.ref ls))) (hR : (ls, listOf (List.toArray vs) el) ∈ news) (hI : IntsAre vs ns) (hne : ns ≠ []) (hx : ns.length ≤ 1000) (hl0 : lastI ns ≠ 0)
    (hD : (D, listOf (List.toArray hs) ep) ∈ news) (hS : IntsAre hs (sumsOf ns)) (m1 : m "sums" = some (.ref D)) (m2 : m "endless" = some (.bool b)) (m5 : m "k" = some (.int (k : Int) tk0))
    (m6 : m "figures" = some (.str (mkS fs) t1)) (m7 : m "separator" = some (.str (mkS sp) t2)) (m8 : m "text" = some (.str (mkS tx) t3)) (hk : k < fs.length) (hfs : fs.length ≤ 1000) (hsp : sp.length ≤ 1000) (htx : tx.length ≤ 10000)
    (kN : ∀ h' tk m' t, Fr h₀ L h' m' → News h₀ L h' news → m' "text" = some (.str (mkS (tx ++ ((if decide (0 < k) && standsG ((fs.length - k : Nat) : Int) ns b then sp else []) ++ [fs[k]]))) t) → (∀ y, y ≠ ("text" : Str) → y ≠ ("right" : Str) → y ≠ ("beyond" : Str) → m' y = m y) → Go (Q .next { s with heap := h', toks := tk })) :
    Go (wpAny (model prog w) A (execs paFor (paE L fa cd)) Q E s) := by
  refine ⟨?_⟩
  have hne' : sumsOf ns ≠ [] := fun e => by have := sumsOf_length ns; rw [e] at this; exact hne (List.eq_nil_of_length_eq_zero this.symm)
  refine wpAny_execs_cons ?_
  refine wpAny_Assign_Name ?_
  refine wpAny_BinOp ?_
  refine Call_ (nameX_B F X T rfl boot_len (by decide) ?_)
  refine callWith_builtin1 (args_cons (nameX_L F m6 (args_nil ?_)))
  refine lenS (by omega) (fun t4 k4 => ?_)
  refine nameX_L F m5 (PyProof.Rows.sub_int ?_)
  rw [show (fs.length : Int) - (k : Int) = ((fs.length - k : Nat) : Int) by omega]
  refine storeX_L F N (fun h₁ F₁ N₁ => ?_)
  dsimp only
  refine wpAny_execs_cons ?_
  refine wpAny_Assign_Name ?_
  refine wpAny_BinOp (nameX_L F₁ (if_pos rfl) (Subscript_ (nameX_L F₁ ((if_neg (by decide)).trans m1) (wpAny_UnaryOp (wpAny_Constant_int (PyProof.Rows.neg_int ?_))))))
  refine item_last (s := { s with heap := h₁, toks := _ }) (News.isList N₁ hD) hS hne' (by rw [sumsOf_length]; omega) (fun t => PyProof.Rows.sub_int ?_)
  rw [sumsOf_last hne]
  refine storeX_L F₁ N₁ (fun h₂ F₂ N₂ => ?_)
  dsimp only
  refine wpAny_execs_cons ?_
  refine wpAny_If ?_
  -- the last statement
  have fin : ∀ (h' : Heap) (tk : Nat) (tx' : List Nat) (m' : Str → Option Value) (t' : Tok), Fr h₀ L h' m' → News h₀ L h' news → m' "text" = some (.str (mkS tx') t') → tx' = tx ++ (if decide (0 < k) && standsG ((fs.length - k : Nat) : Int) ns b then sp else []) → (∀ y, y ≠ ("text" : Str) → y ≠ ("right" : Str) → y ≠ ("beyond" : Str) → m' y = m y) →
      Go (wpAny (model prog w) A (execs (paFor.drop 3) (paE L fa cd)) Q E { s with heap := h', toks := tk }) := by
    intro h' tk tx' m' t' F' N' e1 e2 e3
    refine ⟨?_⟩
    have hl : tx'.length ≤ 20000 := by
      have h9 : (if decide (0 < k) && standsG ((fs.length - k : Nat) : Int) ns b then sp else []).length ≤ sp.length := by split <;> simp
      rw [e2, List.length_append]; omega
    refine wpAny_execs_cons ?_
    refine wpAny_AugAssign_Name ?_
    refine wpAny_loadName_local rfl rfl F'.ns e1 ?_
    refine Subscript_ (nameX_L F' ((e3 _ (by decide) (by decide) (by decide)).trans m6) (nameX_L F' ((e3 _ (by decide) (by decide) (by decide)).trans m5) ?_))
    refine itemS hk (by omega) (fun t5 k5 => ?_)
    refine iaddS (fun t6 k6 => ?_) (by simp; omega)
    refine storeX_L (s := { s with heap := h', toks := _ }) F' N' (fun h₃ F₃ N₃ => ?_)
    dsimp only
    refine wpAny_execs_nil ?_
    refine (kN h₃ _ _ t6 F₃ N₃ ?_ (fun y h1 h2 h3 => (if_neg h1).trans (e3 y h1 h2 h3))).go
    rw [← List.append_assoc, ← e2]
    exact if_pos rfl
  refine pa_test (r := ((fs.length - k : Nat) : Int)) (s := { s with heap := h₂, toks := _ }) F₂ N₂ hc hd hR hI hne hx hl0 hD hS ((if_neg (by decide)).trans ((if_neg (by decide)).trans m1)) ((if_neg (by decide)).trans ((if_neg (by decide)).trans m2)) ((if_neg (by decide)).trans (if_pos rfl)) (if_pos rfl) ((if_neg (by decide)).trans ((if_neg (by decide)).trans m5)) (fun tk => ⟨?_⟩)
  cases hb : (decide (0 < k) && standsG ((fs.length - k : Nat) : Int) ns b) with
  | false =>
    simp only [Bool.false_eq_true, if_false]
    refine wpAny_execs_nil ?_
    dsimp only
    show wpAny (model prog w) A (execs (paFor.drop 3) (paE L fa cd)) Q E _
    refine Go.go ?_
    refine fin h₂ _ tx _ t3 F₂ N₂ ((if_neg (by decide)).trans ((if_neg (by decide)).trans m8)) ?_ (fun y h1 h2 h3 => (if_neg h3).trans (if_neg h2))
    rw [hb]; simp
  | true =>
    simp only [if_true]
    refine wpAny_execs_cons ?_
    refine wpAny_AugAssign_Name ?_
    refine wpAny_loadName_local rfl rfl F₂.ns ((if_neg (by decide)).trans ((if_neg (by decide)).trans m8)) ?_
    refine nameX_L F₂ ((if_neg (by decide)).trans ((if_neg (by decide)).trans m7)) ?_
    refine iaddS (fun t6 k6 => ?_) (by omega)
    refine storeX_L (s := { s with heap := h₂, toks := _ }) F₂ N₂ (fun h₃ F₃ N₃ => ?_)
    dsimp only
    refine wpAny_execs_nil ?_
    dsimp only
    show wpAny (model prog w) A (execs (paFor.drop 3) (paE L fa cd)) Q E _
    refine Go.go ?_
    refine fin h₃ _ (tx ++ sp) _ t6 F₃ N₃ (if_pos rfl) ?_ (fun y h1 h2 h3 => (if_neg h1).trans ((if_neg h3).trans (if_neg h2)))
    rw [hb]; simp
end
end Mine
/- _law_parted: its contract -/
namespace Mine
theorem P_next {st : Int → Bool} {sp fs tx : List Nat} {j : Nat} (hj : j < fs.length) (h : tx ++ P st sp (decide (j = 0)) (fs.drop j) 0 = P st sp true fs 0) :
    (tx ++ ((if decide (0 < j) && st ((fs.length - j : Nat) : Int) then sp else []) ++ [fs[j]])) ++ P st sp (decide (j + 1 = 0)) (fs.drop (j + 1)) 0 = P st sp true fs 0 := by
  rw [← h, List.drop_eq_getElem_cons hj]
  simp only [P]
  have e1 : (!decide (j = 0)) = decide (0 < j) := by
    rw [Bool.eq_iff_iff]; simp; omega
  have e2 : (fs.drop (j + 1)).length + 1 + 0 = fs.length - j := by rw [List.length_drop]; omega
  rw [e1, e2]
  simp
section
variable {prog : Program} {w : World} {A : Around} {E : Value → Shared → Prop} {s : Shared} {h₀ : Heap} {L fa : Addr} {m mg mb : Str → Option Value} {cd : Value} {Q : Flow → Shared → Prop} {p : Program} {loose : List Str} {news : List (Addr × Obj)}
  {ls D : Addr} {vs hs : List Value} {ns : List Int} {el ep : Nat} {oc : Obj} {b : Bool}

theorem pa_loop {fs sp : List Nat} {t1 t2 : Tok} (F : Fr h₀ L s.heap m) (N : News h₀ L s.heap news) (X : (Mine.hd03.heap_39 w.params).In h₀) (T : TopRead p loose mg mb h₀) (hh : A.handled = none)
    (hc : (L + 1, oc) ∈ news) (hd : oc.data = .cell (some (.ref ls))) (hR : (ls, listOf (List.toArray vs) el) ∈ news) (hI : IntsAre vs ns) (hne : ns ≠ []) (hx : ns.length ≤ 1000) (hl0 : lastI ns ≠ 0)
    (hD : (D, listOf (List.toArray hs) ep) ∈ news) (hS : IntsAre hs (sumsOf ns)) (m1 : m "sums" = some (.ref D)) (m2 : m "endless" = some (.bool b))
    (m6 : m "figures" = some (.str (mkS fs) t1)) (m7 : m "separator" = some (.str (mkS sp) t2)) (hfs : fs.length ≤ 1000) (hsp : sp.length ≤ 2)
    (k : ∀ s' m' t, Sim s s' → Fr h₀ L s'.heap m' → News h₀ L s'.heap news → Go (Q (.ret (.str (mkS (P (fun r => standsG r ns b) sp true fs 0)) t)) s')) :
    Go (wpAny (model prog w) A (execs (paB.drop 1) (paE L fa cd)) Q E s) := by
  refine ⟨?_⟩
  refine wpAny_execs_cons ?_
  refine wpAny_Assign_Name ?_
  refine Constant_str ?_
  refine storeX_L F N (fun h₁ F₁ N₁ => ?_)
  dsimp only
  refine wpAny_execs_cons ?_
  refine wpAny_For ?_ (by intro _; rfl)
  refine Call_ (nameX_B F₁ X T rfl boot_range (by decide) ?_)
  refine PyProof.Rows.callWith_type1 (args_cons (Call_ (nameX_B F₁ X T rfl boot_len (by decide) ?_)))
  refine callWith_builtin1 (args_cons (nameX_L F₁ ((if_neg (by decide)).trans m6) (args_nil ?_)))
  refine lenS (by omega) (fun t4 k4 => args_nil ?_)
  refine range_iter_1 (N := fs.length) (s := { s with heap := h₁, toks := _ }) F₁ N₁ (by omega) (fun I h₂ tk₂ F₂ N₂ hI2 => ?_)
  refine range_for hh (fun j m' news' => news' = news ∧ (∃ tx t, m' "text" = some (.str (mkS tx) t) ∧ tx.length ≤ 3 * j ∧ tx ++ P (fun r => standsG r ns b) sp (decide (j = 0)) (fs.drop j) 0 = P (fun r => standsG r ns b) sp true fs 0) ∧ ∀ y, y ≠ ("text" : Str) → y ≠ ("k" : Str) → y ≠ ("right" : Str) → y ≠ ("beyond" : Str) → m' y = m y) F₂ N₂ hI2 ⟨rfl, ⟨[], _, if_pos rfl, by simp, by simp⟩, fun y h1 _ _ _ => if_neg h1⟩ ?_ ?_
  · rintro j s' m' _ t hj ⟨rfl, ⟨tx, t3, ht, hl, hP⟩, hy⟩ hn' hs' F' N'
    have e0 : (0 : Int) + (j : Nat) = (j : Int) := Int.zero_add _
    rw [e0] at F'
    have up : ∀ {y : Str}, y ≠ ("text" : Str) → y ≠ ("k" : Str) → y ≠ ("right" : Str) → y ≠ ("beyond" : Str) → (if y = Str.ofString "k" then some (Value.int (j : Int) t) else m' y) = m y := fun h1 h2 h3 h4 => (if_neg h2).trans (hy _ h1 h2 h3 h4)
    refine pa_turn (k := j) F' N' X T (.tail _ hc) hd (.tail _ hR) hI hne hx hl0 (.tail _ hD) hS ((up (by decide) (by decide) (by decide) (by decide)).trans m1) ((up (by decide) (by decide) (by decide) (by decide)).trans m2) (if_pos rfl) ((up (by decide) (by decide) (by decide) (by decide)).trans m6) ((up (by decide) (by decide) (by decide) (by decide)).trans m7) ((if_neg (by decide)).trans ht) hj hfs (by omega) (by omega) ?_
    intro h₃ tk₃ m₃ t₃ F₃ N₃ e1 e2
    refine ⟨?_⟩
    refine ⟨_, _, ⟨rfl, ⟨_, t₃, e1, ?_, P_next hj hP⟩, fun y h1 h2 h3 h4 => (e2 y h1 h3 h4).trans (up h1 h2 h3 h4)⟩, hn', hs', F₃, N₃⟩
    have h9 : (if decide (0 < j) && standsG ((fs.length - j : Nat) : Int) ns b then sp else []).length ≤ sp.length := by split <;> simp
    rw [List.length_append, List.length_append, List.length_singleton]
    omega
  · rintro s' m' _ ⟨rfl, ⟨tx, t3, ht, hl, hP⟩, hy⟩ hs' F' N'
    refine ⟨?_⟩
    dsimp only
    refine wpAny_execs_cons ?_
    refine wpAny_Return_some ?_
    refine nameX_L F' ht ?_
    rw [List.drop_of_length_le (Nat.le_refl _)] at hP
    simp only [P, List.append_nil] at hP
    rw [hP]
    exact (k s' m' t3 hs' F' N').go
end

theorem parted03 {prog : Program} {w : World} {A A₀ : Around} {E : Value → Shared → Prop} {s : Shared} {h₀ base : Heap} {L : Addr} {m mg mb : Str → Option Value} {news : List (Addr × Obj)} {p : Program} {loose : List Str} {mean : ExcName → Option Value} {Q : Value → Shared → Prop} {env : Env} {outer : List Env}
    {ls : Addr} {vs : List Value} {ns : List Int} {el : Nat} {b : Bool} {fs sp : List Nat} {t1 t2 : Tok}
    (B : Below A₀ base outer h₀) (F : Fr h₀ L s.heap m) (X₀ : (Mine.hd03.heap_39 w.params).In h₀) (N : News h₀ L s.heap news) (T : Top p loose mean mg mb h₀) (hA : A.frames = some (env :: outer)) (hf : env.frame = some L) (hke : env.scope.kind = .function)
    (hroom : A.depth < recursionLimit) (hh : A.handled = none)
    (hR : (ls, listOf (List.toArray vs) el) ∈ news) (hI : IntsAre vs ns) (hx : ns.length ≤ 1000) (hne : ns ≠ []) (hl0 : lastI ns ≠ 0) (hfs : fs.length ≤ 1000) (hsp : sp.length ≤ 2)
    (hQ : ∀ s' t, Sim s s' → Fr h₀ L s'.heap m → News h₀ L s'.heap news → Go (Q (.str (mkS (P (fun r => standsG r ns b) sp true fs 0)) t) s')) :
    wpAny (model prog w) A (call (.ref 33) [.str (mkS fs) t1, .ref ls, .bool b, .str (mkS sp) t2]) Q E s := by
  refine wpAny_call (code_defC (K := Mine.hd03.heap_39 w.params) B F X₀ N T hA hf hke rfl rfl hroom (BindsTo.of_eq rfl) rfl (by decide) ?_ rfl rfl rfl)
  intro g L' h₁ tk₁ cells FG F' N' C' B' X' T' hlt
  obtain ⟨oc, rfl, hd⟩ := CellsAre.one C'
  have hc : (L' + 1, oc) ∈ [(L' + 1, oc)] ++ news := .head _
  have up : ∀ q ∈ news, q ∈ [(L' + 1, oc)] ++ news := fun q hq => .tail _ hq
  refine pa_sums (fa := 33) F' N' X' (topRead_of T') hc hd (up _ hR) hI hx hh ?_
  intro h₂ tk₂ D hs m₂ ep F₂ N₂ hS e1 e2
  refine Go.go ?_
  refine pa_loop (s := { s with heap := h₂, toks := tk₂ }) F₂ N₂ X' (topRead_of T') hh (.tail _ hc) hd (.tail _ (up _ hR)) hI hne hx hl0 (.head _) hS e1 ((e2 _ (by decide)).trans rfl) ((e2 _ (by decide)).trans rfl) ((e2 _ (by decide)).trans rfl) hfs hsp ?_
  intro s₃ m₃ t₃ hs₃ F₃ N₃
  refine ⟨?_⟩
  refine leaveK_ F₃ N₃ fun F₄ N₄ => ?_
  exact (hQ s₃ t₃ hs₃ F₄ (fun q hq => N₄ q (.tail _ (up q hq)))).go
end Mine
/- _law_line: what is due -/
namespace Mine
def lnB : List Stmt := fnBody PySem.Challenge.pw_dm0204_03 6
def lnS : Scope := fnScope PySem.Challenge.pw_dm0204_03 6
abbrev lnE (L f : Addr) (cd : Value) : Env := envOf "_law_line" lnS L f cd

theorem P_length {st : Int → Bool} {sp : List Nat} (hsp : sp.length ≤ 2) : ∀ (l : List Nat) (first : Bool) (r : Nat), l.length ≤ (P st sp first l r).length ∧ (P st sp first l r).length ≤ 3 * l.length
  | [], _, _ => by simp [P]
  | c :: l, first, r => by
    have ih := P_length (st := st) hsp l false r
    have h9 : (if !first && st ((l.length + 1 + r : Nat) : Int) then sp else []).length ≤ sp.length := by split <;> simp
    simp only [P, List.length_append, List.length_cons]
    omega

/-- what the arguments of _law_line are -/
structure Args (sg fs sp : List Nat) (ns es : List Int) : Prop where
  sign : sg = [] ∨ sg = [45]
  figs : ∀ c ∈ fs, c ≠ 32
  some : fs ≠ []
  short : fs.length ≤ 30
  sep : sp.length ≤ 2
  sized : Sized ns
  three : ns.length ≤ 3
  fin : IsEnd es
/-- names that stay -/
def kept (m m' : Str → Option Value) : Prop := m' "sign" = m "sign" ∧ m' "figures" = m "figures" ∧ m' "sizes" = m "sizes" ∧ m' "end" = m "end" ∧ m' "separator" = m "separator"
theorem kept.refl (m : Str → Option Value) : kept m m := ⟨rfl, rfl, rfl, rfl, rfl⟩
theorem kept.trans {m m' m'' : Str → Option Value} (a : kept m m') (b : kept m' m'') : kept m m'' := ⟨b.1.trans a.1, b.2.1.trans a.2.1, b.2.2.1.trans a.2.2.1, b.2.2.2.1.trans a.2.2.2.1, b.2.2.2.2.trans a.2.2.2.2⟩
theorem kept.set {m m' : Str → Option Value} (a : kept m m') {x : Str} {v : Option Value} (h1 : ("sign" : Str) ≠ x) (h2 : ("figures" : Str) ≠ x) (h3 : ("sizes" : Str) ≠ x) (h4 : ("end" : Str) ≠ x) (h5 : ("separator" : Str) ≠ x) : kept m (fun y => if y = x then v else m' y) :=
  ⟨(if_neg h1).trans a.1, (if_neg h2).trans a.2.1, (if_neg h3).trans a.2.2.1, (if_neg h4).trans a.2.2.2.1, (if_neg h5).trans a.2.2.2.2⟩

abbrev PT (ns es : List Int) (sp fs : List Nat) : List Nat := P (fun r => standsG r ns (decide (es = [0]))) sp true fs 0
abbrev MO (ns es : List Int) (sp fs : List Nat) : Nat := (PT ns es sp fs).length - fs.length

section
variable {prog : Program} {w : World} {A A₀ : Around} {E : Value → Shared → Prop} {s : Shared} {h₀ base : Heap} {L fa : Addr} {m mg mb : Str → Option Value} {cd : Value} {Q : Flow → Shared → Prop} {p : Program} {loose : List Str} {mean : ExcName → Option Value} {news : List (Addr × Obj)} {outer : List Env}
  {ls le : Addr} {vs us : List Value} {ns es : List Int} {el ee : Nat} {sg fs sp : List Nat} {t1 t2 t3 t4 : Tok} {chosen : Int}

/-- parted, more -/
theorem ln_parted (G : Args sg fs sp ns es) (B : Below A₀ base outer h₀) (F : Fr h₀ L s.heap m) (N : News h₀ L s.heap news) (X : (Mine.hd03.heap_39 w.params).In h₀) (T : Top p loose mean mg mb h₀) (hA : A.frames = some (lnE L fa cd :: outer)) (hroom : A.depth < recursionLimit) (hh : A.handled = none) (hu : A.units + 64 < cLine)
    (hR : (ls, listOf (List.toArray vs) el) ∈ news) (hI : IntsAre vs ns) (hE : (le, listOf (List.toArray us) ee) ∈ news) (hJ : IntsAre us es)
    (m1 : m "sign" = some (.str (mkS sg) t1)) (m2 : m "figures" = some (.str (mkS fs) t2)) (m3 : m "sizes" = some (.ref ls)) (m4 : m "end" = some (.ref le)) (m5 : m "separator" = some (.str (mkS sp) t3)) (m6 : m "chosen" = some (.int chosen t4))
    (k : ∀ s' m' u1 u2, Sim s s' → Fr h₀ L s'.heap m' → News h₀ L s'.heap news → kept m m' → m' "chosen" = m "chosen" → m' "parted" = some (.str (mkS (sg ++ PT ns es sp fs)) u1) → m' "more" = some (.int (MO ns es sp fs : Nat) u2) →
      Go (wpAny (model prog w) A (execs (lnB.drop 2) (lnE L fa cd)) Q E s')) :
    Go (wpAny (model prog w) A (execs lnB (lnE L fa cd)) Q E s) := by
  refine ⟨?_⟩
  have hl0 : lastI ns ≠ 0 := by have := G.sized.2 _ (lastI_mem G.sized.1); omega
  have hpl : fs.length ≤ (PT ns es sp fs).length ∧ (PT ns es sp fs).length ≤ 3 * fs.length := P_length G.sep fs true 0
  have hpl' := P_length (st := fun r => standsG r ns (decide (es = [0]))) G.sep fs true 0
  have hsl := G.short
  have hsg : sg.length ≤ 1 := by rcases G.sign with h | h <;> rw [h] <;> simp
  refine wpAny_execs_cons ?_
  refine wpAny_Assign_Name ?_
  refine wpAny_BinOp (nameX_L (cl := []) F m1 ?_)
  refine Call_ (nameX_K (cl := []) F X (topRead_of T) rfl ?_)
  refine callWith_K X (by rfl) (args_cons (nameX_L (cl := []) F m2 (args_cons (nameX_L (cl := []) F m3 (args_cons ?_)))))
  refine wpAny_Compare1 (nameX_L (cl := []) F m4 (List_ (args_cons (wpAny_Constant_int (args_nil ?_)))))
  refine newList_N F N (fun h₁ F₁ N₁ => ?_)
  have N₁' : News h₀ L h₁ news := fun q hq => N₁ q (.tail _ hq)
  refine eq_intsK (News.isList N₁' hE) hJ (News.isList N₁ (.head _)) (.cons 0 _ .nil) hu ?_
  refine args_cons (nameX_L (cl := []) F₁ m5 (args_nil ?_))
  refine ⟨X.keeps F₁.keep, ?_⟩
  refine parted03 (s := { s with heap := h₁, toks := _ }) B F₁ X N₁' T hA rfl rfl hroom hh hR hI (by have := G.three; omega) G.sized.1 hl0 (by omega) G.sep ?_
  intro s₂ t5 sim₂ F₂ N₂
  refine ⟨?_⟩
  refine addS (fun t6 k6 => ?_) (by omega)
  refine storeX_L (cl := []) F₂ N₂ (fun h₃ F₃ N₃ => ?_)
  dsimp only
  have K3 : kept m (fun y => if y = Str.ofString "parted" then some (Value.str (mkS (sg ++ PT ns es sp fs)) t6) else m y) := (kept.refl m).set (by decide) (by decide) (by decide) (by decide) (by decide)
  refine wpAny_execs_cons ?_
  refine wpAny_Assign_Name ?_
  refine wpAny_BinOp ?_
  refine Call_ (nameX_B (cl := []) F₃ X (topRead_of T) rfl boot_len (by decide) ?_)
  refine callWith_builtin1 (args_cons (nameX_L (cl := []) F₃ (if_pos rfl) (args_nil ?_)))
  refine lenS (by rw [List.length_append]; omega) (fun t7 k7 => ?_)
  refine Call_ (nameX_B (cl := []) F₃ X (topRead_of T) rfl boot_len (by decide) ?_)
  refine callWith_builtin1 (args_cons (wpAny_BinOp (nameX_L (cl := []) F₃ (K3.1.trans m1) (nameX_L (cl := []) F₃ (K3.2.1.trans m2) ?_))))
  refine addS (fun t8 k8 => args_nil ?_) (by omega)
  refine lenS (by rw [List.length_append]; omega) (fun t9 k9 => ?_)
  refine PyProof.Rows.sub_int ?_
  rw [show (((sg ++ PT ns es sp fs).length : Nat) : Int) - (((sg ++ fs).length : Nat) : Int) = ((MO ns es sp fs : Nat) : Int) by rw [List.length_append, List.length_append]; show _ = (((PT ns es sp fs).length - fs.length : Nat) : Int); omega]
  refine storeX_L (s := { s₂ with heap := h₃, toks := _ }) (cl := []) F₃ N₃ (fun h₄ F₄ N₄ => ?_)
  dsimp only
  show wpAny (model prog w) A (execs (lnB.drop 2) (lnE L fa cd)) Q E _
  refine Go.go ?_
  exact k { s₂ with heap := h₄, toks := _ } _ t6 _ sim₂ F₄ N₄ (K3.set (by decide) (by decide) (by decide) (by decide) (by decide)) rfl rfl rfl

/-- pad, ahead, behind -/
theorem ln_pad {mo : Nat} {u2 : Tok} (hmo : mo ≤ 1000) (F : Fr h₀ L s.heap m) (N : News h₀ L s.heap news) (m6 : m "chosen" = some (.int chosen t4)) (m7 : m "more" = some (.int (mo : Int) u2))
    (k : ∀ h' tk m' a b pv u3 u4 u5, Fr h₀ L h' m' → News h₀ L h' news → kept m m' → m' "parted" = m "parted" → m' "more" = m "more" → a + b ≤ mo + 1 → m' "pad" = some (.int pv u3) → pv = ((a + b : Nat) : Int) → m' "ahead" = some (.int (a : Nat) u4) → m' "behind" = some (.int (b : Nat) u5) →
      Go (wpAny (model prog w) A (execs (lnB.drop 5) (lnE L fa cd)) Q E { s with heap := h', toks := tk })) :
    Go (wpAny (model prog w) A (execs (lnB.drop 2) (lnE L fa cd)) Q E s) := by
  refine ⟨?_⟩
  refine wpAny_execs_cons ?_
  refine wpAny_Assign_Name ?_
  refine wpAny_BinOp (wpAny_BinOp (wpAny_BinOp (nameX_L (cl := []) F m6 (wpAny_Constant_int (floordiv_int (by decide) ?_)))))
  refine wpAny_Constant_int (PyProof.Rows.add_int ?_)
  refine wpAny_BinOp (nameX_L (cl := []) F m7 (wpAny_Constant_int (PyProof.Rows.add_int ?_)))
  refine mod_int' (by omega) ?_
  have r0 : 0 ≤ (chosen.fdiv 3 + 2).fmod ((mo : Int) + 2) := Int.fmod_nonneg_of_pos _ (by omega)
  have r1 : (chosen.fdiv 3 + 2).fmod ((mo : Int) + 2) < (mo : Int) + 2 := Int.fmod_lt_of_pos _ (by omega)
  generalize (chosen.fdiv 3 + 2).fmod ((mo : Int) + 2) = pad at *
  obtain ⟨pd, rfl⟩ : ∃ pd : Nat, pad = pd := ⟨pad.toNat, by omega⟩
  refine storeX_L (cl := []) F N (fun h₁ F₁ N₁ => ?_)
  dsimp only
  refine wpAny_execs_cons ?_
  refine wpAny_Assign_Name ?_
  refine Subscript_ ?_
  refine List_ (args_cons (nameX_L (cl := []) F₁ (if_pos rfl) (args_cons (wpAny_Constant_int (args_cons (wpAny_BinOp (nameX_L (cl := []) F₁ (if_pos rfl) (wpAny_Constant_int (floordiv_int (by decide) (args_nil ?_)))))))))) 
  refine newList_N F₁ N₁ (fun h₂ F₂ N₂ => ?_)
  refine wpAny_BinOp (nameX_L (cl := []) F₂ ((if_neg (by decide)).trans m6) (wpAny_Constant_int (mod_int' (by decide) ?_)))
  have q0 : 0 ≤ chosen.fmod 3 := Int.fmod_nonneg_of_pos _ (by decide)
  have q1 : chosen.fmod 3 < 3 := Int.fmod_lt_of_pos _ (by decide)
  refine kba_turn (value' := PySem.Expr.Name (PySem.Str.ofString "_") ⟨0, 0, 0, 0⟩) (fun _ => rfl) ?_
  refine item_at (s := { s with heap := h₂, toks := _ }) (ns := [(pd : Int), 0, (pd : Int).fdiv 2]) (News.isList N₂ (.head _)) (.cons _ _ (.cons _ _ (.cons _ _ .nil))) q0 (by simpa using q1) (by simp) (fun t => ?_)
  have hv : ∃ a : Nat, [(pd : Int), 0, (pd : Int).fdiv 2].getD (chosen.fmod 3).toNat 0 = a ∧ a ≤ pd := by
    obtain h | h | h : chosen.fmod 3 = 0 ∨ chosen.fmod 3 = 1 ∨ chosen.fmod 3 = 2 := by omega
    · rw [h]; exact ⟨pd, rfl, Nat.le_refl _⟩
    · rw [h]; exact ⟨0, rfl, Nat.zero_le _⟩
    · rw [h]
      refine ⟨pd / 2, ?_, by omega⟩
      show (pd : Int).fdiv 2 = _
      rw [Int.fdiv_eq_ediv_of_nonneg _ (by decide)]
      omega
  obtain ⟨a, ea, ha⟩ := hv
  rw [ea]
  refine storeX_L (s := { s with heap := h₂, toks := _ }) (cl := []) F₂ (fun q hq => N₂ q (.tail _ hq)) (fun h₃ F₃ N₃ => ?_)
  dsimp only
  refine wpAny_execs_cons ?_
  refine wpAny_Assign_Name ?_
  refine wpAny_BinOp (nameX_L (cl := []) F₃ ((if_neg (by decide)).trans (if_pos rfl)) (nameX_L (cl := []) F₃ (if_pos rfl) (PyProof.Rows.sub_int ?_)))
  rw [show (pd : Int) - (a : Int) = ((pd - a : Nat) : Int) by omega]
  refine storeX_L (s := { s with heap := h₃, toks := _ }) (cl := []) F₃ N₃ (fun h₄ F₄ N₄ => ?_)
  dsimp only
  show wpAny (model prog w) A (execs (lnB.drop 5) (lnE L fa cd)) Q E _
  refine Go.go ?_
  refine k h₄ _ _ a (pd - a) _ _ _ _ F₄ N₄ ?_ rfl rfl (by omega) rfl (by omega) rfl rfl
  exact (((kept.refl m).set (by decide) (by decide) (by decide) (by decide) (by decide)).set (by decide) (by decide) (by decide) (by decide) (by decide)).set (by decide) (by decide) (by decide) (by decide) (by decide)
end
end Mine
/- _law_line: due; the pieces cut -/
namespace Mine
section
variable {prog : Program} {w : World} {A A₀ : Around} {E : Value → Shared → Prop} {s : Shared} {h₀ base : Heap} {L fa : Addr} {m mg mb : Str → Option Value} {cd : Value} {Q : Flow → Shared → Prop} {p : Program} {loose : List Str} {mean : ExcName → Option Value} {news : List (Addr × Obj)} {outer : List Env}

/-- due = .. -/
theorem ln_due {mo a b : Nat} {ww : List Nat} {pv : Int} {u1 u2 u3 u4 u5 : Tok} (hmo : mo ≤ 1000) (hww : ww.length ≤ 1000) (hab : a + b ≤ mo + 1) (hpv : pv = ((a + b : Nat) : Int)) (hh : A.handled = none) (F : Fr h₀ L s.heap m) (N : News h₀ L s.heap news) (X : (Mine.hd03.heap_39 w.params).In h₀) (T : TopRead p loose mg mb h₀)
    (m1 : m "parted" = some (.str (mkS ww) u1)) (m2 : m "more" = some (.int (mo : Int) u2)) (m3 : m "pad" = some (.int pv u3)) (m4 : m "ahead" = some (.int (a : Int) u4)) (m5 : m "behind" = some (.int (b : Int) u5))
    (k : ∀ h' tk m' u6, Fr h₀ L h' m' → News h₀ L h' news → kept m m' → m' "ahead" = m "ahead" → m' "behind" = m "behind" → m' "due" = some (.str (mkS (pb (a - mo) ww (b - (mo - a)))) u6) →
      Go (wpAny (model prog w) A (execs (lnB.drop 6) (lnE L fa cd)) Q E { s with heap := h', toks := tk })) :
    Go (wpAny (model prog w) A (execs (lnB.drop 5) (lnE L fa cd)) Q E s) := by
  refine ⟨?_⟩
  refine wpAny_execs_cons ?_
  refine wpAny_Assign_Name ?_
  refine wpAny_BinOp ?_
  refine wpAny_BinOp ?_
  refine wpAny_BinOp (Constant_str ?_)
  refine wpAny_BinOp (nameX_L (cl := []) F m4 ?_)
  refine Call_ (nameX_B (cl := []) F X T rfl boot_min (by decide) ?_)
  refine PyProof.Rows.callWith_builtin1 ?_
  refine args_cons ?_
  refine nameX_L (cl := []) F m4 ?_
  refine args_cons ?_
  refine nameX_L (cl := []) F m2 ?_
  refine args_nil ?_
  refine min_two_N hh F N ?_
  intro h₁ tk₁ F₁ N₁
  refine PyProof.Rows.sub_int ?_
  have e1 : (a : Int) - (if (mo : Int) < (a : Int) then (mo : Int) else (a : Int)) = ((a - mo : Nat) : Int) := by split <;> omega
  rw [e1]
  refine mulS (by omega) (by omega) (fun t1 k1 => ?_)
  rw [Int.toNat_natCast]
  refine nameX_L (cl := []) F₁ m1 ?_
  refine addS (fun t2 k2 => ?_) (by rw [List.length_replicate]; omega)
  refine wpAny_BinOp (Constant_str ?_)
  refine Call_ (nameX_B (cl := []) F₁ X T rfl boot_min (by decide) ?_)
  refine PyProof.Rows.callWith_builtin1 (args_cons (nameX_L (cl := []) F₁ m5 (args_cons ?_)))
  refine Call_ (nameX_B (cl := []) F₁ X T rfl boot_max (by decide) ?_)
  refine PyProof.Rows.callWith_builtin1 (args_cons (wpAny_BinOp (nameX_L (cl := []) F₁ m3 (nameX_L (cl := []) F₁ m2 (PyProof.Rows.sub_int ?_)))))
  refine args_cons (wpAny_Constant_int (args_nil ?_))
  refine max_two_N (s := { s with heap := h₁, toks := _ }) hh F₁ N₁ (fun h₂ tk₂ F₂ N₂ => args_nil ?_)
  refine min_two_N (s := { s with heap := h₂, toks := tk₂ }) hh F₂ N₂ (fun h₃ tk₃ F₃ N₃ => ?_)
  have e2 : (if (if (0 : Int) > pv - (mo : Int) then (0 : Int) else pv - (mo : Int)) < (b : Int) then (if (0 : Int) > pv - (mo : Int) then (0 : Int) else pv - (mo : Int)) else (b : Int)) = ((b - (mo - a) : Nat) : Int) := by
    rw [hpv]; split <;> split <;> omega
  rw [e2]
  refine mulS (by omega) (by omega) (fun t3 k3 => ?_)
  rw [Int.toNat_natCast]
  refine addS (fun t4 k4 => ?_) (by rw [List.length_append, List.length_replicate, List.length_replicate]; omega)
  refine storeX_L (s := { s with heap := h₃, toks := _ }) (cl := []) F₃ N₃ (fun h₄ F₄ N₄ => ?_)
  dsimp only
  show wpAny (model prog w) A (execs (lnB.drop 6) (lnE L fa cd)) Q E _
  refine Go.go ?_
  exact k h₄ _ _ t4 F₄ N₄ ((kept.refl m).set (by decide) (by decide) (by decide) (by decide) (by decide)) rfl rfl rfl
end

theorem fr_moves {g h h' : Heap} {L C : Addr} {m : Str → Option Value} (F : Fr g L h m) (hL : L < C) (k : ∀ b o, b < C → h.get? b = some o → h'.get? b = some o) : Fr g L h' m :=
  ⟨F.ns.at' fun o e => k _ o hL e, fun b o e => k b o (Nat.lt_trans (Nat.lt_of_lt_of_le (Heap.lt_size e) F.above) hL) (F.keep b o e), F.above⟩
theorem news_moves {g h h' : Heap} {L C : Addr} {news : List (Addr × Obj)} (N : News g L h news) (hn : ∀ q ∈ news, q.1 < C) (k : ∀ b o, b < C → h.get? b = some o → h'.get? b = some o) : News g L h' news :=
  fun q hq => ⟨k _ _ (hn q hq) (N q hq).1, (N q hq).2⟩
theorem Moves.old {g : Nat} {C : Addr} {s s' : Shared} (M : Moves g C s s') : ∀ b o, b < C → s.heap.get? b = some o → s'.heap.get? b = some o := fun b o hb e => M.1 b o (Nat.ne_of_lt hb) (.inl hb) e
theorem Moves.sim {g : Nat} {C : Addr} {s s' : Shared} (M : Moves g C s s') : Sim s s' := ⟨M.2.2.1, fun h => M.2.2.2.bare h⟩

section
variable {prog : Program} {w : World} {A : Around} {E : Value → Shared → Prop} {s : Shared} {N : Nat} {gr : List Int} {a : Addr} {g : Nat} {C lg : Addr} {j : Nat}
/-- the generator is asked by a for loop -/
theorem pyNext_gen {Q : Option Value → Shared → Prop} (hh : A.handled = none) (hroom : A.depth < recursionLimit) (haC : a ≠ C) (hcC : cStatics ≠ C) (G : GAt prog w A N gr a g C lg j s) (hj : j < N)
    (hI : ∀ x t s', tell gr none j = some x → (j + 1 < N → GAt prog w A N gr a g C lg (j + 1) s') → Moves g C s s' → Q (some (.int x t)) s')
    (hE : ∀ s', tell gr none j = none → Moves g C s s' → Q none s') : wpAny (model prog w) A (pyNext (.ref a)) Q E s := by
  unfold pyNext
  refine wpAny_bind (wpAny_attempt (gen_wake hh hroom haC hcC G hj (fun x t s' hx G' M => wpAny_pure ?_) (fun e s' hx M he => ?_)))
  · exact hI x t s' hx G' M
  · obtain ⟨o, ho, hc⟩ := he
    refine wpAny_bind (wpAny_isInstance (T := "StopIteration") (b := true) ⟨o, ho, hc⟩ isSubtype_stop ?_)
    exact wpAny_pure (hE s' hx M)

/-- the generator stays where an older object changes that is none of its own -/
theorem GAt.old {x : Addr} {h' : Heap} {tk : Nat} (G : GAt prog w A N gr a g C lg j s) (hs : Heap.SameBut x s.heap h') (hx : x < C) (hCa : C < a) (h1 : x ≠ lg) (h2 : x ≠ mainGlobals) (h3 : x ≠ cStatics)
    (hn : ∀ o, s.heap.get? x = some o → ¬ LI o) : GAt prog w A N gr a g C lg j { s with heap := h', toks := tk } := by
  refine G.keeps (wr := [x]) (fun b o hb e => hs.extBut b o (fun e => hb (List.mem_singleton.mpr e)) e) (fun b hb => ?_)
  rw [List.mem_singleton] at hb; subst hb
  exact ⟨Nat.ne_of_lt (Nat.lt_trans hx hCa), h3, Nat.ne_of_lt hx, h1, h2, hn⟩
theorem GAt.same {h' : Heap} {tk : Nat} (G : GAt prog w A N gr a g C lg j s) (hs : ∀ b o, s.heap.get? b = some o → h'.get? b = some o) : GAt prog w A N gr a g C lg j { s with heap := h', toks := tk } :=
  G.keeps (wr := []) (fun b o _ e => hs b o e) (fun b hb => nomatch hb)
end
end Mine
/- _law_line: the loop over the generator -/
namespace Mine
theorem end_dec {es : List Int} (h : IsEnd es) : decide (es.take 1 = [0]) = decide (es = [0]) := by
  rcases h with rfl | rfl | rfl <;> rfl
def lnFor : List Stmt := match lnB.drop 7 with | .For _ _ b _ _ :: _ => b | _ => []
def lnTgt : Pos := match lnB.drop 7 with | .For (.Name _ p) _ _ _ _ :: _ => p | _ => default
abbrev fT (ns es : List Int) : Nat → Option Int := G ns (decide (es = [0]))
abbrev sT (ns es : List Int) : Int → Bool := fun r => standsG r ns (decide (es = [0]))

section
variable {prog : Program} {w : World} {A : Around} {s : Shared} {n : Nat} {gr : List Int} {a : Addr} {gi : Nat} {C lg : Addr} {g : Heap} {L f Pp : Addr} {cd : Value} {news : List (Addr × Obj)} {R : Result → Shared → Prop} {m mg mb : Str → Option Value} {p : Program} {loose : List Str}

/-- a store in the frame: the generator stays -/
theorem store_G {M : Around} {E : Value → Shared → Prop} {Q : Unit → Shared → Prop} {j : Nat} {x : Str} {v : Value} {news' : List (Addr × Obj)} (F : Fr g L s.heap m) (N' : News g L s.heap news') (Z : GAt prog w A n gr a gi C lg j s) (hLC : L < C) (hCa : C < a)
    (hLl : L ≠ lg) (hLg : L ≠ mainGlobals) (hLs : L ≠ cStatics)
    (h : ∀ h', Fr g L h' (fun y => if y = x then some v else m y) → News g L h' news' → GAt prog w A n gr a gi C lg j { s with heap := h', toks := s.toks + 1 } → Q () { s with heap := h', toks := s.toks + 1 })
    (hx : (lnE L f cd).kindOf x = some .local := by rfl) : wpAny (model prog w) M (storeName (lnE L f cd) x v) Q E s :=
  wpAny_storeName_local hx F.ns (fun h' hn hs => h h' (F.set hn hs) (N'.set hs) (Z.old hs hLC hCa hLl hLg hLs (fun o e => by
    obtain ⟨o', es, ep, ho, hd, _⟩ := F.ns
    have e' : s.heap.get? L = some o := e
    rw [ho] at e'; cases e'; exact not_LI_data hd)))

theorem strs_app : ∀ {vs us : List Value} {ys zs : List Str}, StrsAre vs ys → StrsAre us zs → StrsAre (vs ++ us) (ys ++ zs)
  | _, _, _, _, .nil, h => h
  | _, _, _, _, .cons y t r, h => .cons y t (strs_app r h)
theorem strs_len {vs : List Value} {ys : List Str} (h : StrsAre vs ys) : vs.length = ys.length := h.len_eq

variable {sg fs sp : List Nat} {ns es : List Int}

theorem cut_loop (Gs : Args sg fs sp ns es) (hh : A.handled = none) (hroom : A.depth < recursionLimit) (X : (Mine.hd03.heap_39 w.params).In g) (T : TopRead p loose mg mb g) (hLC : L < C) (hPC : Pp < C) (hnC : ∀ q ∈ news, q.1 < C) (hPn : ∀ q ∈ news, q.1 ≠ Pp) (hCa : C < a) (hsC : cStatics ≠ C)
    (hLl : L ≠ lg) (hLg : L ≠ mainGlobals) (hLs : L ≠ cStatics) (hPl : Pp ≠ lg) (hPg : Pp ≠ mainGlobals) (hPs : Pp ≠ cStatics)
    {t0 : Tok} {ep : Nat} (F₀ : Fr g L s.heap m) (N₀ : News g L s.heap ((Pp, listOf (List.toArray []) ep) :: news)) (hm1 : m "pieces" = some (.ref Pp)) (hm2 : m "left" = some (.str (mkS fs) t0)) (Z₀ : GAt prog w A 40 (ns ++ es) a gi C lg 0 s)
    (hR : ∀ s' m' left ps acc ep' j t', Sim s s' → Fr g L s'.heap m' → News g L s'.heap ((Pp, listOf (List.toArray acc) ep') :: news) → StrsAre acc (ps.map mkS) → Cut (fT ns es) (sT ns es) sp fs j left ps → left ++ tailOf sp ps = PT ns es sp fs →
      m' "pieces" = some (.ref Pp) → m' "left" = some (.str (mkS left) t') → (∀ y, y ≠ ("pieces" : Str) → y ≠ ("left" : Str) → y ≠ ("size" : Str) → m' y = m y) → Go (R (.ok .next) s')) :
    codeAny (model prog w) A (.forLoop (.Name "size" lnTgt) (.ref a) lnFor [] (lnE L f cd)) R s := by
  have hf : ∀ j x, fT ns es j = some x → 1 ≤ x ∧ x ≤ 5 := fun j x h => G_in Gs.sized h
  have htell : ∀ j, tell (ns ++ es) none j = fT ns es j := fun j => by rw [tell_eq Gs.sized Gs.fin, end_dec Gs.fin]
  have hsh := Gs.short
  refine codeAny_forLoop_any
    (fun c s' => ∃ j left ps acc ep' m' t', c = 40 - j ∧ Sim s s' ∧ Fr g L s'.heap m' ∧ News g L s'.heap ((Pp, listOf (List.toArray acc) ep') :: news) ∧ StrsAre acc (ps.map mkS) ∧ Cut (fT ns es) (sT ns es) sp fs j left ps ∧
      m' "pieces" = some (.ref Pp) ∧ m' "left" = some (.str (mkS left) t') ∧ GAt prog w A 40 (ns ++ es) a gi C lg j s' ∧ ∀ y, y ≠ ("pieces" : Str) → y ≠ ("left" : Str) → y ≠ ("size" : Str) → m' y = m y) ?_ 40
    ⟨0, fs, [], [], ep, m, t0, rfl, Sim.refl _, F₀, N₀, .nil, Cut.start Gs.sized Gs.three Gs.some, hm1, hm2, Z₀, fun _ _ _ _ => rfl⟩
  rintro c s' ⟨j, left, ps, acc, ep', m', t', rfl, hs, F', N', hI, cut, h1, h2, Z, hy⟩
  have hw := congrArg List.length cut.whole
  rw [List.length_append] at hw
  have hj := cut.long
  have hlp : 0 < left.length := List.length_pos_iff.mpr cut.rest
  have hnC' : ∀ q ∈ (Pp, listOf (List.toArray acc) ep') :: news, q.1 < C := fun q hq => by rcases List.mem_cons.mp hq with rfl | hq; exact hPC; exact hnC q hq
  refine pyNext_gen hh hroom (Nat.ne_of_gt hCa) hsC Z (by omega) (fun x t s₁ hx Z₁ M₁ => ?_) (fun s₁ hx M₁ => ?_)
  · have F₁ := fr_moves F' hLC M₁.old
    have N₁ := news_moves N' hnC' M₁.old
    have S₁ := hs.trans M₁.sim
    have Z₁ := Z₁ (by omega)
    rw [htell] at hx
    have hx5 := hf j x hx
    obtain ⟨xn, rfl⟩ : ∃ xn : Nat, x = xn := ⟨x.toNat, by omega⟩
    dsimp only
    refine wpAny_of_eq (rfl : letOwnedTupleGo (.Name "size" lnTgt) (.ref a) (.int (xn : Int) t) = pure ()) ?_
    refine wpAny_assign_Name ?_
    refine store_G F₁ N₁ Z₁ hLC hCa hLl hLg hLs (fun h₂ F₂ N₂ Z₂ => ?_)
    refine wpAny_execs_cons ?_
    refine wpAny_If ?_
    refine wpAny_isTrue_Compare1 ?_
    refine nameX_L (cl := []) F₂ (if_pos rfl) ?_
    refine Call_ (nameX_B (cl := []) F₂ X T rfl boot_len (by decide) ?_)
    refine PyProof.Rows.callWith_builtin1 (args_cons (nameX_L (cl := []) F₂ ((if_neg (by decide)).trans h2) (args_nil ?_)))
    refine lenS (by omega) (fun t₃ k₃ => ?_)
    refine PyProof.Rows.ge_int (wpAny_truthy_bool ?_)
    by_cases hge : (left.length : Int) ≤ (xn : Int)
    · rw [decide_eq_true hge]
      simp only [if_true]
      refine wpAny_execs_cons ?_
      refine wpAny_Break ?_
      refine (hR _ _ left ps acc ep' j t' ?_ F₂ N₂ hI cut (cut.close hf hsh fun x' hx' => ?_) ((if_neg (by decide)).trans h1) ((if_neg (by decide)).trans h2) (fun y y1 y2 y3 => (if_neg y3).trans (hy y y1 y2 y3))).go
      · exact S₁
      · rw [hx] at hx'; cases hx'; exact hge
    · rw [decide_eq_false hge]
      simp only [Bool.false_eq_true, if_false]
      refine wpAny_execs_nil ?_
      dsimp only
      -- pieces.append(left[-size:])
      refine wpAny_execs_cons ?_
      refine wpAny_Expr ?_
      refine MethodCall_ ?_
      refine nameX_L (cl := []) F₂ ((if_neg (by decide)).trans h1) ?_
      refine getMethod_append_N (s := { s₁ with heap := h₂, toks := _ }) N₂ (.head _) ?_
      refine callWith_method1 (args_cons (he := by kernel_rfl) ?_)
      refine Subscript_ (nameX_L (cl := []) F₂ ((if_neg (by decide)).trans h2) ?_)
      refine wpAny_Slice (evalPart_some_step (wpAny_UnaryOp (nameX_L (cl := []) F₂ (if_pos rfl) (PyProof.Rows.neg_int ?_))))
      refine evalPart_none_step (evalPart_none_step ?_)
      refine slice_sn_stays (s := { s₁ with heap := h₂, toks := _ }) (fun h₃ t₄ k₄ st₃ => ?_) (by rw [mkS_length]; have hsl : sizeLine = 16777216 := rfl; omega)
      rw [slice_from_neg xn (by omega) (by omega)]
      have F₃ := fr_stays F₂ st₃
      have N₃ := news_stays N₂ st₃
      have Z₃ := Z₂.same (h' := h₃) (tk := k₄) st₃
      refine args_nil ?_
      have zP := N₃ _ (.head _)
      have hal : acc.length = ps.length := by rw [strs_len hI, List.length_map]
      refine append_at (its := acc.toArray) (n := ep') (s := { s₁ with heap := h₃, toks := k₄ }) zP.1 (fun h₅ hs₅ ho₅ => ?_) (by simp only [List.size_toArray]; have hsl : sizeLine = 16777216 := rfl; have := cut.count; omega)
      have F₅ := F₃.change hs₅ zP.2.1 zP.2.2
      have N₅ := N₃.setHead hPn hs₅ ho₅
      rw [List.push_toArray] at N₅
      have Z₅ := Z₃.old (h' := h₅) (tk := k₄) hs₅ hPC hCa hPl hPg hPs (fun o e => by
        have e' : h₃.get? Pp = some o := e
        rw [zP.1] at e'; cases e'; exact not_LI_cls (c := .type "list") rfl (by decide))
      dsimp only
      -- left = left[:-size]
      refine wpAny_execs_cons ?_
      refine wpAny_Assign_Name ?_
      refine Subscript_ (nameX_L (cl := []) F₅ ((if_neg (by decide)).trans h2) ?_)
      refine wpAny_Slice (evalPart_none_step (evalPart_some_step (wpAny_UnaryOp (nameX_L (cl := []) F₅ (if_pos rfl) (PyProof.Rows.neg_int ?_)))))
      refine evalPart_none_step ?_
      refine slice_ns_stays (s := { s₁ with heap := h₅, toks := _ }) (fun h₆ t₆ k₆ st₆ => ?_) (by rw [mkS_length]; have hsl : sizeLine = 16777216 := rfl; omega)
      rw [slice_to_neg xn (by omega) (by omega)]
      have F₆ := fr_stays F₅ st₆
      have N₆ := news_stays N₅ st₆
      have Z₆ := Z₅.same (h' := h₆) (tk := k₆) st₆
      refine store_G (s := { s₁ with heap := h₆, toks := k₆ }) F₆ N₆ Z₆ hLC hCa hLl hLg hLs (fun h₇ F₇ N₇ Z₇ => ?_)
      dsimp only
      refine wpAny_execs_nil ?_
      refine ⟨40 - (j + 1), by omega, j + 1, _, ps ++ [left.drop (left.length - xn)], acc ++ [.str (mkS (left.drop (left.length - xn))) t₄], ep' + 1, _, t₆, rfl, S₁, F₇, N₇, ?_, cut.step hf hsh hx (by omega), ?_, if_pos rfl, Z₇, fun y y1 y2 y3 => (if_neg y2).trans ((if_neg y3).trans (hy y y1 y2 y3))⟩
      · rw [List.map_append]; exact strs_app hI (.cons _ _ .nil)
      · exact (if_neg (by decide)).trans ((if_neg (by decide)).trans h1)
  · rw [htell] at hx
    dsimp only
    refine wpAny_execs_nil ?_
    refine (hR s₁ m' left ps acc ep' j t' (hs.trans M₁.sim) (fr_moves F' hLC M₁.old) (news_moves N' hnC' M₁.old) hI cut (cut.close hf hsh fun x' hx' => ?_) h1 h2 hy).go
    rw [hx] at hx'; cases hx'
end
end Mine
/- _law_line: pieces, left = ([], figures), and the loop entered -/
namespace Mine
theorem unpackItems_x {prog : Program} {w : World} {A : Around} {E : Value → Shared → Prop} {s : Shared} {t : Addr} {items : Array Value} {n : Nat} {Q : List Value → Shared → Prop} (ht : IsTup s.heap t items)
    (hh : A.handled = none) (hn : n = items.size) (h : ∀ h', (∀ b o, s.heap.get? b = some o → h'.get? b = some o) → Q items.toList { s with heap := h' }) : wpAny (model prog w) A (unpackItems (.ref t) n none) Q E s := by
  subst hn
  exact unpackItems_tuple hh ht fun h' he => h h' fun b o e => he b o (Nat.ne_of_lt (Heap.lt_size e)) e
theorem allBare_push {gs : Array GenState} {x : GenState} (h : AllBare gs) (hx : x.bare = true) : AllBare (gs.push x) := fun y hy => by
  rcases Array.mem_push.mp hy with hy | rfl
  · exact h y hy
  · exact hx
theorem head_sized {ns es : List Int} (h : Sized ns) : (ns ++ es).head? ≠ some 0 := by
  cases ns with
  | nil => exact absurd rfl h.1
  | cons x r =>
    have := h.2 x (.head _)
    simp
    omega
/-- names that stay through the cutting -/
def kept3 (m m' : Str → Option Value) : Prop := m' "ahead" = m "ahead" ∧ m' "behind" = m "behind" ∧ m' "due" = m "due"
section
variable {prog : Program} {w : World} {A : Around} {E : Value → Shared → Prop} {s : Shared} {h₀ : Heap} {L fa : Addr} {m mg mb : Str → Option Value} {cd : Value} {Q : Flow → Shared → Prop} {p : Program} {loose : List Str} {mean : ExcName → Option Value} {news : List (Addr × Obj)}
  {ls le : Addr} {vs us : List Value} {ns es : List Int} {el ee : Nat} {sg fs sp : List Nat} {t2 : Tok}

theorem ln_cut (Gs : Args sg fs sp ns es) (F : Fr h₀ L s.heap m) (N : News h₀ L s.heap news) (X : (Mine.hd03.heap_39 w.params).In h₀) (T : Top p loose mean mg mb h₀) (hroom : A.depth < recursionLimit) (hh : A.handled = none)
    (hR : (ls, listOf (List.toArray vs) el) ∈ news) (hI : IntsAre vs ns) (hE : (le, listOf (List.toArray us) ee) ∈ news) (hJ : IntsAre us es)
    (m2 : m "figures" = some (.str (mkS fs) t2)) (m3 : m "sizes" = some (.ref ls)) (m4 : m "end" = some (.ref le))
    (k : ∀ s' m' Pp left ps acc ep' j t', Sim s s' → Fr h₀ L s'.heap m' → News h₀ L s'.heap ((Pp, listOf (List.toArray acc) ep') :: news) → StrsAre acc (ps.map mkS) → Cut (fT ns es) (sT ns es) sp fs j left ps → left ++ tailOf sp ps = PT ns es sp fs →
      m' "pieces" = some (.ref Pp) → m' "left" = some (.str (mkS left) t') → kept m m' → kept3 m m' → Go (wpAny (model prog w) A (execs (lnB.drop 8) (lnE L fa cd)) Q E s')) :
    Go (wpAny (model prog w) A (execs (lnB.drop 6) (lnE L fa cd)) Q E s) := by
  refine ⟨?_⟩
  have h3 := Gs.three
  have hee : es.length ≤ 1 := by rcases Gs.fin with h | h | h <;> rw [h] <;> simp
  refine wpAny_execs_cons ?_
  refine Assign_Tuple_swapped ?_
  refine Tuple_ ?_
  refine args_cons ?_
  refine List_ (args_nil ?_)
  refine newList_K F N (fun Pp h₁ F₁ N₁ lt₁ => ?_)
  refine args_cons (nameX_L (cl := []) F₁ m2 (args_nil ?_))
  refine newTuple_N F₁ N₁ (fun h₂ F₂ N₂ => ?_)
  refine unpackItems_x ⟨_, (N₂ _ (.head _)).1, rfl, _, rfl⟩ hh rfl (fun h₃ st₃ => ?_)
  have F₃ := fr_stays F₂ st₃
  have N₃ : News h₀ L h₃ ((Pp, listOf (List.toArray []) 0) :: news) := fun q hq => news_stays N₂ st₃ q (.tail _ hq)
  refine assignInOrder_cons (bindName_ (storeX_L (cl := []) F₃ N₃ (fun h₄ F₄ N₄ => ?_)))
  refine assignInOrder_cons (bindName_ (storeX_L (cl := []) F₄ N₄ (fun h₅ F₅ N₅ => ?_)))
  refine assignInOrder_nil ?_
  dsimp only
  refine wpAny_execs_cons ?_
  refine wpAny_For ?_ (by intro _; rfl)
  refine Call_ (nameX_K (cl := []) F₅ X (topRead_of T) rfl ?_)
  refine callWith_K X (by rfl) (args_cons ?_)
  refine wpAny_BinOp (nameX_L (cl := []) F₅ ((if_neg (by decide)).trans ((if_neg (by decide)).trans m3)) (nameX_L (cl := []) F₅ ((if_neg (by decide)).trans ((if_neg (by decide)).trans m4)) ?_))
  refine add_lists_ints (s := { s with heap := h₅, toks := _ }) F₅ N₅ (News.isList N₅ (.tail _ hR)) (News.isList N₅ (.tail _ hE)) hI hJ (fun h₆ F₆ N₆ hI₆ => ?_) (by have hsl : sizeLine = 16777216 := rfl; omega)
  refine args_nil ?_
  refine ⟨X.keeps F₆.keep, ?_⟩
  have hlg : h₆.IsList h₅.objs.size (vs ++ us).toArray := News.isList N₆ (.head _)
  refine gen_call (N := 40) (s := { s with heap := h₆, toks := _ }) F₆ X T hroom hlg hI₆ (head_sized Gs.sized) (by omega) (fun h₇ tk₇ gs hb st₇ sz₇ G₇ => ?_)
  refine wpAny_pyIter_gen (G₇ A hh).1 ?_
  have hL6 : L < h₆.objs.size := F₆.ns.lt
  have hP6 : Pp < h₆.objs.size := Heap.lt_size (N₆ _ (.tail _ (.head _))).1
  obtain ⟨mc, hmc, hmcn⟩ := T.nolimit
  have hs6 : cStatics < h₆.objs.size := (hmc.keeps F₆.keep).lt
  have gG : mainGlobals < h₀.objs.size := T.g.lt
  have sG : cStatics < h₀.objs.size := hmc.lt
  have aL : h₀.objs.size ≤ L := F₆.above
  have nP : h₀.get? Pp = none := (N₆ _ (.tail _ (.head _))).2.2
  have hPg : Pp ≠ mainGlobals := fun e => by
    obtain ⟨o, _, _, ho, _⟩ := T.g
    rw [e] at nP; rw [nP] at ho; cases ho
  have hPs : Pp ≠ cStatics := fun e => by
    obtain ⟨o, _, _, ho, _⟩ := hmc
    rw [e] at nP; rw [nP] at ho; cases ho
  have F₇ := fr_stays F₆ st₇
  have N₇ : News h₀ L h₇ ((Pp, listOf (List.toArray []) 0) :: news) := fun q hq => news_stays N₆ st₇ q (.tail _ hq)
  have hPl : Pp < h₅.objs.size := Heap.lt_size (N₅ _ (.head _)).1
  have hLl : L < h₅.objs.size := F₅.ns.lt
  refine cut_loop (s := { s with heap := h₇, toks := tk₇, gens := s.gens.push gs }) (C := h₆.objs.size) (a := h₆.objs.size + 1) (gi := s.gens.size) (lg := h₅.objs.size) (Pp := Pp) (news := news) (sg := sg) Gs hh hroom X (topRead_of T) hL6 hP6 (fun q hq => Heap.lt_size (N₆ q (.tail _ (.tail _ hq))).1) (fun q hq => Nat.ne_of_lt (lt₁ q hq)) (Nat.lt_succ_self _) (Nat.ne_of_lt hs6)
    (Nat.ne_of_lt hLl) (Nat.ne_of_gt (Nat.lt_of_lt_of_le gG aL)) (Nat.ne_of_gt (Nat.lt_of_lt_of_le sG aL)) (Nat.ne_of_lt hPl) hPg hPs F₇ N₇ (if_pos rfl) ((if_neg (by decide)).trans (if_pos rfl)) (G₇ A hh) ?_
  intro s' m' left ps acc ep' j t' hs F' N' hst cut hcl e1 e2 e3
  refine ⟨?_⟩
  dsimp only
  show wpAny (model prog w) A (execs (lnB.drop 8) (lnE L fa cd)) Q E _
  refine Go.go ?_
  refine k s' m' Pp left ps acc ep' j t' ?_ F' N' hst cut hcl e1 e2 ?_ ?_
  · exact Sim.trans (s' := { s with heap := h₇, toks := tk₇, gens := s.gens.push gs }) ⟨rfl, fun h => allBare_push h hb⟩ hs
  · exact ⟨e3 _ (by decide) (by decide) (by decide), e3 _ (by decide) (by decide) (by decide), e3 _ (by decide) (by decide) (by decide), e3 _ (by decide) (by decide) (by decide), e3 _ (by decide) (by decide) (by decide)⟩
  · exact ⟨e3 _ (by decide) (by decide) (by decide), e3 _ (by decide) (by decide) (by decide), e3 _ (by decide) (by decide) (by decide)⟩
end
end Mine
/- _law_line: whole -/
namespace Mine
theorem strs_rev : ∀ {vs : List Value} {ys : List Str}, StrsAre vs ys → StrsAre vs.reverse ys.reverse
  | _, _, .nil => .nil
  | _, _, .cons y t r => by
    rw [List.reverse_cons, List.reverse_cons]
    exact strs_app (strs_rev r) (.cons y t .nil)
theorem join_mkS (sp : List Nat) : ∀ (x : List Nat) (qs : List (List Nat)), Str.join (mkS sp) (mkS x :: qs.map mkS) = mkS (x ++ (qs.map (sp ++ ·)).flatten)
  | x, [] => by simp [Str.join]
  | x, q :: qs => by
    rw [List.map_cons]
    show mkS x ++ mkS sp ++ Str.join (mkS sp) (mkS q :: qs.map mkS) = _
    rw [join_mkS sp q qs, mkS_append, mkS_append]
    simp
theorem join_text (sp left : List Nat) (ps : List (List Nat)) : Txt.join (mkS sp) (mkS left :: ps.reverse.map mkS) = mkS (left ++ tailOf sp ps) := by
  rw [show Txt.join (mkS sp) (mkS left :: ps.reverse.map mkS) = Str.join (mkS sp) (mkS left :: ps.reverse.map mkS) from StrLaws.glued_eq_join _ _, join_mkS]
  rfl
theorem sum_lens : ∀ (qs : List (List Nat)), ((qs.map mkS).map (·.length)).sum = qs.flatten.length
  | [] => rfl
  | q :: qs => by
    simp only [List.map_cons, List.sum_cons, List.flatten_cons, List.length_append, mkS_length]
    rw [sum_lens qs]
section
variable {prog : Program} {w : World} {A : Around} {E : Value → Shared → Prop} {s : Shared} {h₀ : Heap} {L fa : Addr} {m mg mb : Str → Option Value} {cd : Value} {Q : Flow → Shared → Prop} {p : Program} {loose : List Str} {news : List (Addr × Obj)}
  {ns es : List Int} {sg fs sp left : List Nat} {t1 t2 t3 t' : Tok} {Pp : Addr} {ps : List (List Nat)} {acc : List Value} {ep' j : Nat}

/-- whole = sign + separator.join([left] + pieces[::-1]) -/
theorem ln_whole (Gs : Args sg fs sp ns es) (F : Fr h₀ L s.heap m) (N : News h₀ L s.heap ((Pp, listOf (List.toArray acc) ep') :: news)) (hst : StrsAre acc (ps.map mkS)) (cut : Cut (fT ns es) (sT ns es) sp fs j left ps) (hcl : left ++ tailOf sp ps = PT ns es sp fs)
    (m1 : m "sign" = some (.str (mkS sg) t1)) (m5 : m "separator" = some (.str (mkS sp) t3)) (m6 : m "pieces" = some (.ref Pp)) (m7 : m "left" = some (.str (mkS left) t'))
    (k : ∀ h' tk m' u, Fr h₀ L h' m' → News h₀ L h' ((Pp, listOf (List.toArray acc) ep') :: news) → m' "whole" = some (.str (mkS (sg ++ PT ns es sp fs)) u) → (∀ y, y ≠ ("whole" : Str) → m' y = m y) → Go (wpAny (model prog w) A (execs (lnB.drop 9) (lnE L fa cd)) Q E { s with heap := h', toks := tk })) :
    Go (wpAny (model prog w) A (execs (lnB.drop 8) (lnE L fa cd)) Q E s) := by
  refine ⟨?_⟩
  have hsl : sizeLine = 16777216 := rfl
  have hsh := Gs.short
  have hsp := Gs.sep
  have hsg : sg.length ≤ 1 := by rcases Gs.sign with h | h <;> rw [h] <;> simp
  have hw := congrArg List.length cut.whole
  rw [List.length_append] at hw
  have hj := cut.long
  have hcn := cut.count
  have hpl : fs.length ≤ (PT ns es sp fs).length ∧ (PT ns es sp fs).length ≤ 3 * fs.length := P_length Gs.sep fs true 0
  have hacc : acc.length = ps.length := by rw [strs_len hst, List.length_map]
  refine wpAny_execs_cons ?_
  refine wpAny_Assign_Name ?_
  refine wpAny_BinOp (nameX_L (cl := []) F m1 ?_)
  refine MethodCall_ ?_
  refine nameX_L (cl := []) F m5 ?_
  refine GM.join ?_
  refine callWith_method1 ?_
  refine args_cons ?_
  refine wpAny_BinOp ?_
  refine List_ (args_cons (nameX_L (cl := []) F m7 (args_nil ?_)))
  refine newList_N F N (fun h₁ F₁ N₁ => ?_)
  refine Subscript_ (nameX_L (cl := []) F₁ m6 ?_)
  refine wpAny_Slice (evalPart_none_step (evalPart_none_step (evalPart_some_step (wpAny_UnaryOp (wpAny_Constant_int (PyProof.Rows.neg_int ?_))))))
  refine krv_lit (s := { s with heap := h₁, toks := _ }) (its := acc.toArray) (zs := acc.reverse) F₁ N₁ (News.isList N₁ (.tail _ (.head _))) (.int _ _) rfl (fun D₂ h₂ F₂ N₂ _ => ?_) (by with_unfolding_all rfl) (by intro _; with_unfolding_all rfl) (by simp only [List.size_toArray]; omega)
  refine add_lists (s := { s with heap := h₂, toks := _ }) F₂ N₂ (News.isList N₂ (.tail _ (.head _))) (News.isList N₂ (.head _)) (fun h₃ F₃ N₃ => ?_) (by rw [List.length_reverse]; simp only [List.length_cons, List.length_nil]; omega)
  refine args_nil ?_
  have hys : StrsAre ([Value.str (mkS left) t'] ++ acc.reverse) (mkS left :: ps.reverse.map mkS) := by
    have := strs_app (.cons (mkS left) t' .nil) (strs_rev hst)
    rw [← List.map_reverse] at this
    exact this
  refine join_list (items := ([Value.str (mkS left) t'] ++ acc.reverse).toArray) (News.isList N₃ (.head _)) hys ?_ (fun t4 k4 => ?_)
  · rw [List.map_cons, List.sum_cons, mkS_length, mkS_length, sum_lens, List.length_cons, List.length_map, List.length_reverse]
    have e : ps.reverse.flatten.length = (bareOf ps).length := rfl
    have : (ps.length + 1) * sp.length ≤ (ps.length + 1) * 2 := Nat.mul_le_mul_left _ hsp
    omega
  · rw [join_text, hcl]
    refine addS (fun t5 k5 => ?_) (by omega)
    refine storeX_L (s := { s with heap := h₃, toks := _ }) (cl := []) F₃ N₃ (fun h₄ F₄ N₄ => ?_)
    dsimp only
    show wpAny (model prog w) A (execs (lnB.drop 9) (lnE L fa cd)) Q E _
    refine Go.go ?_
    exact k h₄ _ _ t5 F₄ (fun q hq => N₄ q (.tail _ (.tail _ (.tail _ hq)))) (if_pos rfl) (fun y hy => if_neg hy)
end
end Mine
/- _law_line: the first two checks -/
namespace Mine
theorem P_last {st : Int → Bool} {sp : List Nat} : ∀ (l : List Nat) (first : Bool) (r : Nat), l ≠ [] → ∃ q d, P st sp first l r = q ++ [d] ∧ d ∈ l
  | [], _, _, h => absurd rfl h
  | [c], first, r, _ => ⟨_, c, rfl, .head _⟩
  | c :: d :: l, first, r, _ => by
    obtain ⟨q, e, h1, h2⟩ := P_last (st := st) (sp := sp) (d :: l) false r (by simp)
    refine ⟨(if !first && st (((d :: l).length + 1 + r : Nat) : Int) then sp else []) ++ c :: q, e, ?_, .tail _ h2⟩
    rw [P, h1]
    simp
theorem solid_of {sg u : List Nat} {d : Nat} (hs : sg = [] ∨ sg = [45]) (hu : ∃ c r, u = c :: r ∧ c ≠ 32) (hv : ∃ q, u = q ++ [d]) (hd : d ≠ 32) : Solid (sg ++ u) := by
  obtain ⟨c, r, rfl, hc⟩ := hu
  obtain ⟨q, hq⟩ := hv
  refine ⟨?_, sg ++ q, d, by rw [hq, List.append_assoc], hd⟩
  rcases hs with rfl | rfl
  · exact ⟨c, r, rfl, hc⟩
  · exact ⟨45, c :: r, rfl, by decide⟩
theorem solid_PT {sg fs sp : List Nat} {ns es : List Int} (Gs : Args sg fs sp ns es) : Solid (sg ++ PT ns es sp fs) := by
  obtain ⟨q, d, h1, h2⟩ := P_last (st := sT ns es) (sp := sp) fs true 0 Gs.some
  refine solid_of (d := d) Gs.sign ?_ ⟨q, h1⟩ (Gs.figs d h2)
  have hf := Gs.figs
  have hn := Gs.some
  clear h1 h2
  cases fs with
  | nil => exact absurd rfl hn
  | cons c r => exact ⟨c, _, by simp [PT, P]; rfl, hf c (.head _)⟩
theorem solid_tabs (u : List Nat) : Solid ([9] ++ u ++ [10]) := ⟨⟨9, u ++ [10], rfl, by decide⟩, [9] ++ u, 10, rfl, by decide⟩

section
variable {prog : Program} {w : World} {A A₀ : Around} {s : Shared} {h₀ base : Heap} {L : Addr} {m mg mb : Str → Option Value} {news : List (Addr × Obj)} {p : Program} {loose : List Str} {mean : ExcName → Option Value} {env : Env} {outer : List Env}
/-- _strip_padding of a text between blanks -/
theorem strip_text {E : Value → Shared → Prop} {Q : Value → Shared → Prop} {a b n : Nat} {u : List Nat} {t tn : Tok} (hu : Solid u) (hl : a + u.length + b ≤ 10000)
    (B : Below A₀ base outer h₀) (F : Fr h₀ L s.heap m) (X₀ : (Mine.hd03.heap_39 w.params).In h₀) (N : News h₀ L s.heap news) (T : Top p loose mean mg mb h₀) (hA : A.frames = some (env :: outer)) (hf : env.frame = some L) (hke : env.scope.kind = .function)
    (hroom : A.depth < recursionLimit) (hh : A.handled = none)
    (hQ : ∀ h' tk t', Fr h₀ L h' m → News h₀ L h' news → Go (Q (.str (mkS (pb (a - n) u (b - (n - a)))) t') { s with heap := h', toks := tk })) :
    wpAny (model prog w) A (call (.ref 28) [.str (mkS (pb a u b)) t, .int (n : Int) tn]) Q E s := by
  have hsl : sizeLine = 16777216 := rfl
  refine strip03 B F X₀ N T hA hf hke hroom hh (by rw [mkS_length, pb_length]; omega) ?_ ?_
  · intro x y h' tk t' hb F' N'
    rw [mkS_cps, strip_pb hu] at hb
    cases hb
    rw [slice_mid _ _ (by omega) (by rw [pb_length]; omega)]
    rw [show a + u.length + b - min b (n - min a n) - min a n = a + u.length + b - min b (n - min a n) - min a n from rfl, pb_cut (by omega) (by omega)]
    rw [show a - min a n = a - n by omega, show b - min b (n - min a n) = b - (n - a) by omega]
    exact (hQ h' tk t' F' N').go
  · intro g h' tk e hb
    rw [mkS_cps, strip_pb hu] at hb
    cases hb
end

section
variable {prog : Program} {w : World} {A A₀ : Around} {E : Value → Shared → Prop} {s : Shared} {h₀ base : Heap} {L fa : Addr} {m mg mb : Str → Option Value} {cd : Value} {Q : Flow → Shared → Prop} {p : Program} {loose : List Str} {mean : ExcName → Option Value} {news : List (Addr × Obj)} {outer : List Env}
  {ns es : List Int} {sg fs sp left : List Nat} {t1 t2 t3 t4 t5 t6 : Tok} {Pp : Addr} {ps : List (List Nat)} {acc : List Value} {ep' j a b : Nat}

theorem mo_eq (cut : Cut (fT ns es) (sT ns es) sp fs j left ps) (hcl : left ++ tailOf sp ps = PT ns es sp fs) : MO ns es sp fs = sp.length * ps.length := by
  have h1 := congrArg List.length hcl
  have h2 := congrArg List.length cut.whole
  rw [List.length_append, tailOf_length] at h1
  rw [List.length_append] at h2
  show (PT ns es sp fs).length - fs.length = _
  omega

/-- if _strip_padding(..) != due: return False -/
theorem ln_check1 (Gs : Args sg fs sp ns es) (B : Below A₀ base outer h₀) (F : Fr h₀ L s.heap m) (N : News h₀ L s.heap ((Pp, listOf (List.toArray acc) ep') :: news)) (X : (Mine.hd03.heap_39 w.params).In h₀) (T : Top p loose mean mg mb h₀) (hA : A.frames = some (lnE L fa cd :: outer)) (hroom : A.depth < recursionLimit) (hh : A.handled = none)
    (hst : StrsAre acc (ps.map mkS)) (cut : Cut (fT ns es) (sT ns es) sp fs j left ps) (hcl : left ++ tailOf sp ps = PT ns es sp fs) (hab : a + b ≤ MO ns es sp fs + 1)
    (m1 : m "ahead" = some (.int (a : Int) t1)) (m2 : m "behind" = some (.int (b : Int) t2)) (m3 : m "whole" = some (.str (mkS (sg ++ PT ns es sp fs)) t3)) (m4 : m "separator" = some (.str (mkS sp) t4)) (m5 : m "pieces" = some (.ref Pp))
    (m6 : m "due" = some (.str (mkS (pb (a - MO ns es sp fs) (sg ++ PT ns es sp fs) (b - (MO ns es sp fs - a)))) t6))
    (k : ∀ h' tk, Fr h₀ L h' m → News h₀ L h' ((Pp, listOf (List.toArray acc) ep') :: news) → Go (wpAny (model prog w) A (execs (lnB.drop 10) (lnE L fa cd)) Q E { s with heap := h', toks := tk })) :
    Go (wpAny (model prog w) A (execs (lnB.drop 9) (lnE L fa cd)) Q E s) := by
  refine ⟨?_⟩
  have hsl : sizeLine = 16777216 := rfl
  have hsh := Gs.short
  have hsp := Gs.sep
  have hsg : sg.length ≤ 1 := by rcases Gs.sign with h | h <;> rw [h] <;> simp
  have hpl : fs.length ≤ (PT ns es sp fs).length ∧ (PT ns es sp fs).length ≤ 3 * fs.length := P_length Gs.sep fs true 0
  have hmo : MO ns es sp fs ≤ 60 := by show (PT ns es sp fs).length - fs.length ≤ 60; omega
  have hacc : acc.length = ps.length := by rw [strs_len hst, List.length_map]
  have hmeq := mo_eq cut hcl
  have hj := cut.long
  have hcn := cut.count
  have hw := congrArg List.length cut.whole
  rw [List.length_append] at hw
  refine wpAny_execs_cons ?_
  refine wpAny_If ?_
  refine wpAny_isTrue_Compare1 ?_
  refine Call_ (nameX_K (cl := []) F X (topRead_of T) rfl ?_)
  refine callWith_K X (by rfl) (args_cons ?_)
  refine wpAny_BinOp ?_
  refine wpAny_BinOp ?_
  refine wpAny_BinOp (Constant_str (nameX_L (cl := []) F m1 ?_))
  refine mulS (by omega) (by omega) (fun u1 k1 => ?_)
  rw [Int.toNat_natCast]
  refine nameX_L (cl := []) F m3 ?_
  refine addS (fun u2 k2 => ?_) (by rw [List.length_replicate, List.length_append]; omega)
  refine wpAny_BinOp (Constant_str (nameX_L (cl := []) F m2 ?_))
  refine mulS (by omega) (by omega) (fun u3 k3 => ?_)
  rw [Int.toNat_natCast]
  refine addS (fun u4 k4 => ?_) (by rw [List.length_append, List.length_append, List.length_replicate, List.length_replicate]; omega)
  refine args_cons ?_
  refine wpAny_BinOp ?_
  refine Call_ (nameX_B (cl := []) F X (topRead_of T) rfl boot_len (by decide) ?_)
  refine PyProof.Rows.callWith_builtin1 (args_cons (nameX_L (cl := []) F m4 (args_nil ?_)))
  refine lenS (by omega) (fun u5 k5 => ?_)
  refine Call_ (nameX_B (cl := []) F X (topRead_of T) rfl boot_len (by decide) ?_)
  refine PyProof.Rows.callWith_builtin1 (args_cons (nameX_L (cl := []) F m5 (args_nil ?_)))
  refine len_list (s := { s with toks := _ }) (News.isList N (.head _)) (by simp only [List.size_toArray]; omega) ?_
  refine mul_int ?_ (.of_left (intBits_le_64 (by omega) (by omega)))
  rw [List.size_toArray, hacc, show ((sp.length : Nat) : Int) * ((ps.length : Nat) : Int) = ((MO ns es sp fs : Nat) : Int) by rw [hmeq]; exact (Int.natCast_mul _ _).symm]
  refine args_nil ?_
  refine ⟨X.keeps F.keep, ?_⟩
  refine strip_text (s := { s with toks := _ }) (a := a) (b := b) (u := sg ++ PT ns es sp fs) (n := MO ns es sp fs) (solid_PT Gs) (by rw [List.length_append]; omega) B F X N T hA rfl rfl hroom hh ?_
  intro h₁ tk₁ u6 F₁ N₁
  refine ⟨?_⟩
  refine nameX_L (cl := []) F₁ m6 ?_
  refine neS ?_
  rw [decide_eq_true rfl]
  refine wpAny_truthy_bool ?_
  simp only [Bool.not_true, Bool.false_eq_true, if_false]
  refine wpAny_execs_nil ?_
  dsimp only
  show wpAny (model prog w) A (execs (lnB.drop 10) (lnE L fa cd)) Q E _
  refine Go.go ?_
  exact k h₁ _ F₁ N₁

theorem tab_S : Str.ofString "\t" = mkS [9] := by decide +kernel
theorem nl_S : Str.ofString "\n" = mkS [10] := by decide +kernel

/-- if _strip_padding('\t' + whole + '\n', 2) != ..: return False -/
theorem ln_check2 {news' : List (Addr × Obj)} {u : List Nat} (hul : u.length ≤ 1000) (B : Below A₀ base outer h₀) (F : Fr h₀ L s.heap m) (N : News h₀ L s.heap news') (X : (Mine.hd03.heap_39 w.params).In h₀) (T : Top p loose mean mg mb h₀) (hA : A.frames = some (lnE L fa cd :: outer)) (hroom : A.depth < recursionLimit) (hh : A.handled = none)
    (m3 : m "whole" = some (.str (mkS u) t3))
    (k : ∀ h' tk, Fr h₀ L h' m → News h₀ L h' news' → Go (wpAny (model prog w) A (execs (lnB.drop 11) (lnE L fa cd)) Q E { s with heap := h', toks := tk })) :
    Go (wpAny (model prog w) A (execs (lnB.drop 10) (lnE L fa cd)) Q E s) := by
  refine ⟨?_⟩
  refine wpAny_execs_cons ?_
  refine wpAny_If ?_
  refine wpAny_isTrue_Compare1 ?_
  refine Call_ (nameX_K (cl := []) F X (topRead_of T) rfl ?_)
  refine callWith_K X (by rfl) (args_cons ?_)
  refine wpAny_BinOp ?_
  refine wpAny_BinOp (Constant_str (nameX_L (cl := []) F m3 ?_))
  rw [tab_S]
  refine addS (fun u2 k2 => ?_) (by simp; omega)
  refine Constant_str ?_
  rw [nl_S]
  refine addS (fun u4 k4 => ?_) (by simp; omega)
  refine args_cons (wpAny_Constant_int (args_nil ?_))
  refine ⟨X.keeps F.keep, ?_⟩
  have e0 : [9] ++ u ++ [10] = pb 0 ([9] ++ u ++ [10]) 0 := by simp [pb]
  have e1 : ∀ t : Tok, Value.str (mkS ([9] ++ u ++ [10])) t = Value.str (mkS (pb 0 ([9] ++ u ++ [10]) 0)) t := fun t => by rw [← e0]
  rw [e1]
  refine strip_text (s := { s with toks := _ }) (a := 0) (b := 0) (u := [9] ++ u ++ [10]) (n := 2) (solid_tabs u) (by simp; omega) B F X N T hA rfl rfl hroom hh ?_
  intro h₁ tk₁ u6 F₁ N₁
  refine ⟨?_⟩
  rw [show pb (0 - 2) ([9] ++ u ++ [10]) (0 - (2 - 0)) = [9] ++ u ++ [10] from e0.symm]
  refine wpAny_BinOp ?_
  refine wpAny_BinOp (Constant_str (nameX_L (cl := []) F₁ m3 ?_))
  refine addS (fun u7 k7 => ?_) (by simp; omega)
  refine Constant_str ?_
  refine addS (fun u8 k8 => ?_) (by simp; omega)
  refine neS ?_
  rw [decide_eq_true rfl]
  refine wpAny_truthy_bool ?_
  simp only [Bool.not_true, Bool.false_eq_true, if_false]
  refine wpAny_execs_nil ?_
  dsimp only
  show wpAny (model prog w) A (execs (lnB.drop 11) (lnE L fa cd)) Q E _
  refine Go.go ?_
  exact k h₁ _ F₁ N₁
end
end Mine
/- _law_line: the second way, a turn -/
namespace Mine
/-- where a solid text stands between blanks -/
theorem find_pb {a b : Nat} {u : List Nat} (hu : Solid u) : Txt.find (mkS (pb a u b)) (mkS u) = (a : Int) := by
  have hpos := solid_pos hu
  have hat : StrLaws.At (mkS (pb a u b)) (mkS u) (mkS (pb a u b)).length a := by
    refine ⟨by rw [mkS_length, mkS_length, pb_length]; omega, ?_⟩
    rw [StrLaws.subAt_eq, mkS_cps, mkS_cps, mkS_length]
    unfold pb
    rw [List.append_assoc, List.drop_append, List.drop_of_length_le (by simp), List.length_replicate, Nat.sub_self, List.drop_zero, List.nil_append, List.take_append, List.take_of_length_le (Nat.le_refl _), Nat.sub_self, List.take_zero, List.append_nil]
    simp
  rcases find_whole (mkS (pb a u b)) (mkS u) with ⟨_, hn⟩ | ⟨i, e, hi, hn⟩
  · exact absurd hat (hn a)
  · rw [e]
    congr 1
    rcases Nat.lt_trichotomy i a with h | h | h
    · exfalso
      obtain ⟨_, hs⟩ := hi
      rw [StrLaws.subAt_eq, mkS_cps, mkS_cps, mkS_length, beq_iff_eq] at hs
      obtain ⟨⟨c, r, rfl, hc⟩, _⟩ := hu
      have h1 := congrArg (fun z => z[0]?) hs
      simp only [List.getElem?_cons_zero] at h1
      rw [List.getElem?_take, if_pos (by simp), List.getElem?_drop, Nat.add_zero] at h1
      unfold pb at h1
      rw [List.append_assoc, List.getElem?_append_left (by simpa using h), List.getElem?_replicate, if_pos h] at h1
      exact hc (Option.some.inj h1).symm
    · exact h
    · exact absurd hat (hn a h)

/-- what is left of the figures and what has been put behind, after i pieces -/
def LL (left : List Nat) (ps : List (List Nat)) (i : Nat) : List Nat := left ++ bareOf (ps.drop i)
def RR (sp : List Nat) (ps : List (List Nat)) (i : Nat) : List Nat := tailOf sp (ps.take i)
theorem LL_step {left : List Nat} {ps : List (List Nat)} {i : Nat} (h : i < ps.length) : LL left ps i = LL left ps (i + 1) ++ ps[i] := by
  unfold LL bareOf
  rw [List.drop_eq_getElem_cons h, List.reverse_cons, List.flatten_append, List.append_assoc]
  simp only [List.flatten_cons, List.flatten_nil, List.append_nil]
theorem RR_step {sp : List Nat} {ps : List (List Nat)} {i : Nat} (h : i < ps.length) : RR sp ps (i + 1) = sp ++ ps[i] ++ RR sp ps i := by
  unfold RR
  rw [List.take_add_one, List.getElem?_eq_getElem h]
  exact tailOf_snoc _ _ _
theorem tail_last {sp : List Nat} : ∀ {qs : List (List Nat)}, qs ≠ [] → (∀ q ∈ qs, q ≠ []) → ∃ r d, tailOf sp qs = r ++ [d] ∧ d ∈ bareOf qs
  | [], h, _ => absurd rfl h
  | q :: qs, _, h => by
    obtain ⟨r, d, e⟩ : ∃ r d, q = r ++ [d] := by
      rcases List.eq_nil_or_concat q with h1 | ⟨r, d, h1⟩
      · exact absurd h1 (h q (.head _))
      · exact ⟨r, d, by simpa using h1⟩
    refine ⟨tailOf sp qs ++ sp ++ r, d, ?_, ?_⟩
    · rw [e]; simp [tailOf]
    · rw [e]; simp [bareOf]
theorem bare_sub {qs : List (List Nat)} {i : Nat} : ∀ d, d ∈ bareOf (qs.take i) → d ∈ bareOf qs := by
  intro d hd
  simp only [bareOf, List.mem_flatten, List.mem_reverse] at hd ⊢
  obtain ⟨l, hl, hd⟩ := hd
  exact ⟨l, List.mem_of_mem_take hl, hd⟩
theorem core_solid {sg fs sp left : List Nat} {ns es : List Int} {j i : Nat} {ps : List (List Nat)} (Gs : Args sg fs sp ns es) (cut : Cut (fT ns es) (sT ns es) sp fs j left ps) (hi : i < ps.length) : Solid (sg ++ LL left ps (i + 1) ++ RR sp ps (i + 1)) := by
  have hin : ∀ d, d ∈ left ∨ d ∈ bareOf ps → d ≠ 32 := fun d hd => Gs.figs d (by rw [cut.whole]; exact List.mem_append.mpr hd)
  have hne : ps.take (i + 1) ≠ [] := by
    intro e
    have := congrArg List.length e
    rw [List.length_take, List.length_nil] at this
    omega
  obtain ⟨r, d, e, hd⟩ := tail_last (sp := sp) hne (fun q hq => cut.full q (List.mem_of_mem_take hq))
  rw [List.append_assoc]
  refine solid_of (d := d) Gs.sign ?_ ⟨LL left ps (i + 1) ++ r, by unfold RR; rw [e, List.append_assoc]⟩ (hin d (.inr (bare_sub d hd)))
  have hl := cut.rest
  unfold LL
  cases left with
  | nil => exact absurd rfl hl
  | cons c l => exact ⟨c, _, rfl, hin c (.inl (.head _))⟩
theorem core_length {sg fs sp left : List Nat} {ns es : List Int} {j i : Nat} {ps : List (List Nat)} (Gs : Args sg fs sp ns es) (cut : Cut (fT ns es) (sT ns es) sp fs j left ps) (hi : i ≤ ps.length) : (LL left ps i).length ≤ 30 ∧ (RR sp ps i).length ≤ 100 := by
  have hw := congrArg List.length cut.whole
  have hsh := Gs.short
  have hsp := Gs.sep
  rw [List.length_append] at hw
  have hb : ∀ qs : List (List Nat), (bareOf qs).length = (qs.map List.length).sum := fun qs => by simp [bareOf, List.length_flatten, List.sum_reverse]
  have e : (bareOf ps).length = (bareOf (ps.take i)).length + (bareOf (ps.drop i)).length := by
    rw [hb, hb, hb, ← List.sum_append, ← List.map_append, List.take_append_drop]
  have hj := cut.long
  have hcn := cut.count
  constructor
  · unfold LL; rw [List.length_append]; omega
  · unfold RR
    rw [tailOf_length, List.length_take]
    have : sp.length * min i ps.length ≤ 2 * min i ps.length := Nat.mul_le_mul_right _ hsp
    omega

section
variable {prog : Program} {w : World} {A A₀ : Around} {E : Value → Shared → Prop} {s : Shared} {h₀ base : Heap} {L fa : Addr} {m mg mb : Str → Option Value} {cd : Value} {Q : Flow → Shared → Prop} {p : Program} {loose : List Str} {mean : ExcName → Option Value} {news : List (Addr × Obj)} {outer : List Env}
  {ns es : List Int} {sg fs sp left : List Nat} {t1 t2 t3 t4 t5 t6 t7 : Tok} {ps : List (List Nat)} {i j a b : Nat}
def lnFor2 : List Stmt := match lnB.drop 12 with | .For _ _ b _ _ :: _ => b | _ => []

theorem ln_turn2 (Gs : Args sg fs sp ns es) (B : Below A₀ base outer h₀) (F : Fr h₀ L s.heap m) (N : News h₀ L s.heap news) (X : (Mine.hd03.heap_39 w.params).In h₀) (T : Top p loose mean mg mb h₀) (hA : A.frames = some (lnE L fa cd :: outer)) (hroom : A.depth < recursionLimit) (hh : A.handled = none)
    (cut : Cut (fT ns es) (sT ns es) sp fs j left ps) (hi : i < ps.length) (hab : a + b ≤ 100)
    (m1 : m "sign" = some (.str (mkS sg) t1)) (m2 : m "separator" = some (.str (mkS sp) t2)) (m3 : m "left" = some (.str (mkS (LL left ps i)) t3)) (m4 : m "right" = some (.str (mkS (RR sp ps i)) t4)) (m5 : m "ahead" = some (.int (a : Int) t5)) (m6 : m "behind" = some (.int (b : Int) t6)) (m7 : m "piece" = some (.str (mkS ps[i]) t7))
    (k : ∀ h' tk m' u1 u2 u3 u4, Fr h₀ L h' m' → News h₀ L h' news → m' "left" = some (.str (mkS (LL left ps (i + 1))) u1) → m' "right" = some (.str (mkS (RR sp ps (i + 1))) u2) → m' "ahead" = some (.int ((a - sp.length : Nat) : Int) u3) → m' "behind" = some (.int ((b - (sp.length - a) : Nat) : Int) u4) →
      (∀ y, y ≠ ("left" : Str) → y ≠ ("right" : Str) → y ≠ ("core" : Str) → y ≠ ("line" : Str) → y ≠ ("ahead" : Str) → y ≠ ("behind" : Str) → m' y = m y) → Go (Q .next { s with heap := h', toks := tk })) :
    Go (wpAny (model prog w) A (execs lnFor2 (lnE L fa cd)) Q E s) := by
  refine ⟨?_⟩
  have hsl : sizeLine = 16777216 := rfl
  have hsp := Gs.sep
  have hsg : sg.length ≤ 1 := by rcases Gs.sign with h | h <;> rw [h] <;> simp
  have l0 := core_length Gs cut (i := i) (by omega)
  have l1 := core_length Gs cut (i := i + 1) (by omega)
  have hst := LL_step (left := left) hi
  have hlp := congrArg List.length hst
  rw [List.length_append] at hlp
  have hcore := core_solid Gs cut hi
  -- left = left[:len(left) - len(piece)]
  refine wpAny_execs_cons ?_
  refine wpAny_Assign_Name ?_
  refine Subscript_ (nameX_L (cl := []) F m3 ?_)
  refine wpAny_Slice (evalPart_none_step (evalPart_some_step (wpAny_BinOp ?_)))
  refine Call_ (nameX_B (cl := []) F X (topRead_of T) rfl boot_len (by decide) ?_)
  refine PyProof.Rows.callWith_builtin1 (args_cons (nameX_L (cl := []) F m3 (args_nil ?_)))
  refine lenS (by omega) (fun u1 k1 => ?_)
  refine Call_ (nameX_B (cl := []) F X (topRead_of T) rfl boot_len (by decide) ?_)
  refine PyProof.Rows.callWith_builtin1 (args_cons (nameX_L (cl := []) F m7 (args_nil ?_)))
  refine lenS (by omega) (fun u2 k2 => ?_)
  refine PyProof.Rows.sub_int (evalPart_none_step ?_)
  rw [show (((LL left ps i).length : Nat) : Int) - ((ps[i].length : Nat) : Int) = (((LL left ps (i + 1)).length : Nat) : Int) by omega]
  refine slice_ns_stays (s := { s with toks := _ }) (fun h₁ t₁ k₁ st₁ => ?_) (by rw [mkS_length]; omega)
  rw [slice_to _ (by omega), show (LL left ps i).take (LL left ps (i + 1)).length = LL left ps (i + 1) by rw [hst, List.take_append, List.take_of_length_le (Nat.le_refl _), Nat.sub_self, List.take_zero, List.append_nil]]
  refine storeX_L (s := { s with heap := h₁, toks := _ }) (cl := []) (fr_stays F st₁) (news_stays N st₁) (fun h₂ F₂ N₂ => ?_)
  dsimp only
  -- right = separator + piece + right
  refine wpAny_execs_cons ?_
  refine wpAny_Assign_Name ?_
  refine wpAny_BinOp (wpAny_BinOp (nameX_L (cl := []) F₂ ((if_neg (by decide)).trans m2) (nameX_L (cl := []) F₂ ((if_neg (by decide)).trans m7) ?_)))
  refine addS (fun u3 k3 => ?_) (by omega)
  refine nameX_L (cl := []) F₂ ((if_neg (by decide)).trans m4) ?_
  refine addS (fun u4 k4 => ?_) (by rw [List.length_append]; omega)
  rw [← RR_step hi]
  refine storeX_L (s := { s with heap := h₂, toks := _ }) (cl := []) F₂ N₂ (fun h₃ F₃ N₃ => ?_)
  dsimp only
  -- core = sign + left + right
  refine wpAny_execs_cons ?_
  refine wpAny_Assign_Name ?_
  refine wpAny_BinOp (wpAny_BinOp (nameX_L (cl := []) F₃ ((if_neg (by decide)).trans ((if_neg (by decide)).trans m1)) (nameX_L (cl := []) F₃ ((if_neg (by decide)).trans (if_pos rfl)) ?_)))
  refine addS (fun u5 k5 => ?_) (by omega)
  refine nameX_L (cl := []) F₃ (if_pos rfl) ?_
  refine addS (fun u6 k6 => ?_) (by rw [List.length_append]; omega)
  refine storeX_L (s := { s with heap := h₃, toks := _ }) (cl := []) F₃ N₃ (fun h₄ F₄ N₄ => ?_)
  dsimp only
  have hcl : (sg ++ LL left ps (i + 1) ++ RR sp ps (i + 1)).length ≤ 200 := by rw [List.length_append, List.length_append]; omega
  generalize hcg : sg ++ LL left ps (i + 1) ++ RR sp ps (i + 1) = core at *
  -- line = _strip_padding(' ' * ahead + core + ' ' * behind, len(separator))
  refine wpAny_execs_cons ?_
  refine wpAny_Assign_Name ?_
  refine Call_ (nameX_K (cl := []) F₄ X (topRead_of T) rfl ?_)
  refine callWith_K X (by rfl) (args_cons ?_)
  refine wpAny_BinOp ?_
  refine wpAny_BinOp ?_
  refine wpAny_BinOp (Constant_str (nameX_L (cl := []) F₄ ((if_neg (by decide)).trans ((if_neg (by decide)).trans ((if_neg (by decide)).trans m5))) ?_))
  refine mulS (by omega) (by omega) (fun u7 k7 => ?_)
  rw [Int.toNat_natCast]
  refine nameX_L (cl := []) F₄ (if_pos rfl) ?_
  refine addS (fun u8 k8 => ?_) (by rw [List.length_replicate]; omega)
  refine wpAny_BinOp (Constant_str (nameX_L (cl := []) F₄ ((if_neg (by decide)).trans ((if_neg (by decide)).trans ((if_neg (by decide)).trans m6))) ?_))
  refine mulS (by omega) (by omega) (fun u9 k9 => ?_)
  rw [Int.toNat_natCast]
  refine addS (fun v1 l1' => ?_) (by rw [List.length_append, List.length_replicate, List.length_replicate]; omega)
  refine args_cons ?_
  refine Call_ (nameX_B (cl := []) F₄ X (topRead_of T) rfl boot_len (by decide) ?_)
  refine PyProof.Rows.callWith_builtin1 (args_cons (nameX_L (cl := []) F₄ ((if_neg (by decide)).trans ((if_neg (by decide)).trans ((if_neg (by decide)).trans m2))) (args_nil ?_)))
  refine lenS (by omega) (fun v2 l2 => args_nil ?_)
  refine ⟨X.keeps F₄.keep, ?_⟩
  refine strip_text (s := { s with heap := h₄, toks := _ }) (a := a) (b := b) (u := core) (n := sp.length) hcore (by omega) B F₄ X N₄ T hA rfl rfl hroom hh ?_
  intro h₅ tk₅ v3 F₅ N₅
  refine ⟨?_⟩
  refine storeX_L (s := { s with heap := h₅, toks := _ }) (cl := []) F₅ N₅ (fun h₆ F₆ N₆ => ?_)
  dsimp only
  have ha' : a - sp.length ≤ 100 := by omega
  have hb' : b - (sp.length - a) ≤ 100 := by omega
  generalize hea : a - sp.length = a' at *
  generalize heb : b - (sp.length - a) = b' at *
  -- ahead = line.find(core)
  refine wpAny_execs_cons ?_
  refine wpAny_Assign_Name ?_
  refine MethodCall_ ?_
  refine nameX_L (cl := []) F₆ (if_pos rfl) ?_
  refine GM.find ?_
  refine callWith_method1 ?_
  refine args_cons ?_
  refine nameX_L (cl := []) F₆ ((if_neg (by decide)).trans (if_pos rfl)) (args_nil ?_)
  refine SC.find ?_
  rw [find_pb hcore]
  refine storeX_L (s := { s with heap := h₆, toks := _ }) (cl := []) F₆ N₆ (fun h₇ F₇ N₇ => ?_)
  dsimp only
  -- behind = len(line) - ahead - len(core)
  refine wpAny_execs_cons ?_
  refine wpAny_Assign_Name ?_
  refine wpAny_BinOp ?_
  refine wpAny_BinOp ?_
  refine Call_ (nameX_B (cl := []) F₇ X (topRead_of T) rfl boot_len (by decide) ?_)
  refine PyProof.Rows.callWith_builtin1 (args_cons (nameX_L (cl := []) F₇ ((if_neg (by decide)).trans (if_pos rfl)) (args_nil ?_)))
  refine lenS (by rw [pb_length]; omega) (fun v4 l4 => ?_)
  refine nameX_L (cl := []) F₇ (if_pos rfl) ?_
  refine PyProof.Rows.sub_int ?_
  refine Call_ (nameX_B (cl := []) F₇ X (topRead_of T) rfl boot_len (by decide) ?_)
  refine PyProof.Rows.callWith_builtin1 (args_cons (nameX_L (cl := []) F₇ ((if_neg (by decide)).trans ((if_neg (by decide)).trans (if_pos rfl))) (args_nil ?_)))
  refine lenS (by omega) (fun v5 l5 => ?_)
  refine PyProof.Rows.sub_int ?_
  rw [pb_length, show ((a' + core.length + b' : Nat) : Int) - (a' : Int) - (core.length : Int) = (b' : Int) by omega]
  refine storeX_L (s := { s with heap := h₇, toks := _ }) (cl := []) F₇ N₇ (fun h₈ F₈ N₈ => ?_)
  dsimp only
  -- if line != ' ' * ahead + core + ' ' * behind: return False
  refine wpAny_execs_cons ?_
  refine wpAny_If ?_
  refine wpAny_isTrue_Compare1 ?_
  refine nameX_L (cl := []) F₈ ((if_neg (by decide)).trans ((if_neg (by decide)).trans (if_pos rfl))) ?_
  refine wpAny_BinOp ?_
  refine wpAny_BinOp ?_
  refine wpAny_BinOp (Constant_str (nameX_L (cl := []) F₈ ((if_neg (by decide)).trans (if_pos rfl)) ?_))
  refine mulS (by omega) (by omega) (fun v6 l6 => ?_)
  rw [Int.toNat_natCast]
  refine nameX_L (cl := []) F₈ ((if_neg (by decide)).trans ((if_neg (by decide)).trans ((if_neg (by decide)).trans (if_pos rfl)))) ?_
  refine addS (fun v7 l7 => ?_) (by rw [List.length_replicate]; omega)
  refine wpAny_BinOp (Constant_str (nameX_L (cl := []) F₈ (if_pos rfl) ?_))
  refine mulS (by omega) (by omega) (fun v8 l8 => ?_)
  rw [Int.toNat_natCast]
  refine addS (fun v9 l9 => ?_) (by rw [List.length_append, List.length_replicate, List.length_replicate]; omega)
  refine neS ?_
  rw [show decide (pb a' core b' = List.replicate a' 32 ++ core ++ List.replicate b' 32) = true from decide_eq_true rfl]
  refine wpAny_truthy_bool ?_
  simp only [Bool.not_true, Bool.false_eq_true, if_false]
  refine wpAny_execs_nil ?_
  dsimp only
  refine wpAny_execs_nil ?_
  refine (k h₈ _ _ _ _ _ _ F₈ N₈ rfl rfl rfl rfl (fun y y1 y2 y3 y4 y5 y6 => ?_)).go
  exact (if_neg y6).trans ((if_neg y5).trans ((if_neg y4).trans ((if_neg y3).trans ((if_neg y2).trans (if_neg y1)))))
end
end Mine
/- _law_line: the second way; its contract -/
namespace Mine
theorem strs_get : ∀ {vs : List Value} {ys : List Str} {i : Nat} {v : Value}, StrsAre vs ys → vs[i]? = some v → ∃ y t, v = .str y t ∧ ys[i]? = some y
  | _, _, i, v, .nil, h => by simp at h
  | _, _, 0, v, .cons y t r, h => by simp at h; exact ⟨y, t, h.symm, rfl⟩
  | _, _, i + 1, v, .cons y t r, h => by
    obtain ⟨y', t', e, e'⟩ := strs_get (i := i) r (by simpa using h)
    exact ⟨y', t', e, by simpa using e'⟩
theorem LL_zero {f : Nat → Option Int} {st : Int → Bool} {sp fs left : List Nat} {j : Nat} {ps : List (List Nat)} (cut : Cut f st sp fs j left ps) : LL left ps 0 = fs := by
  unfold LL; rw [List.drop_zero]; exact cut.whole.symm
theorem LL_end {left : List Nat} {ps : List (List Nat)} : LL left ps ps.length = left := by
  unfold LL; rw [List.drop_of_length_le (Nat.le_refl _)]; simp [bareOf]
theorem RR_end {sp : List Nat} {ps : List (List Nat)} : RR sp ps ps.length = tailOf sp ps := by
  unfold RR; rw [List.take_of_length_le (Nat.le_refl _)]

section
variable {prog : Program} {w : World} {A A₀ : Around} {E : Value → Shared → Prop} {s : Shared} {h₀ base : Heap} {L fa : Addr} {m mg mb : Str → Option Value} {cd : Value} {Q : Flow → Shared → Prop} {p : Program} {loose : List Str} {mean : ExcName → Option Value} {news : List (Addr × Obj)} {outer : List Env}
  {ns es : List Int} {sg fs sp left : List Nat} {t0 t1 t2 t5 t6 t7 : Tok} {ps : List (List Nat)} {j a b : Nat} {Pp : Addr} {acc : List Value} {ep' : Nat}

theorem ln_second (Gs : Args sg fs sp ns es) (B : Below A₀ base outer h₀) (F : Fr h₀ L s.heap m) (N : News h₀ L s.heap ((Pp, listOf (List.toArray acc) ep') :: news)) (X : (Mine.hd03.heap_39 w.params).In h₀) (T : Top p loose mean mg mb h₀) (hA : A.frames = some (lnE L fa cd :: outer)) (hroom : A.depth < recursionLimit) (hh : A.handled = none)
    (hst : StrsAre acc (ps.map mkS)) (cut : Cut (fT ns es) (sT ns es) sp fs j left ps) (hcl : left ++ tailOf sp ps = PT ns es sp fs) (hab : a + b ≤ 100)
    (m0 : m "figures" = some (.str (mkS fs) t0)) (m1 : m "sign" = some (.str (mkS sg) t1)) (m2 : m "separator" = some (.str (mkS sp) t2)) (m5 : m "ahead" = some (.int (a : Int) t5)) (m6 : m "behind" = some (.int (b : Int) t6)) (m8 : m "pieces" = some (.ref Pp))
    (m7 : m "due" = some (.str (mkS (pb (a - MO ns es sp fs) (sg ++ PT ns es sp fs) (b - (MO ns es sp fs - a)))) t7))
    (k : ∀ s' m', Sim s s' → Fr h₀ L s'.heap m' → News h₀ L s'.heap ((Pp, listOf (List.toArray acc) ep') :: news) → Go (Q (.ret (.bool true)) s')) :
    Go (wpAny (model prog w) A (execs (lnB.drop 11) (lnE L fa cd)) Q E s) := by
  refine ⟨?_⟩
  have hsl : sizeLine = 16777216 := rfl
  have hsp := Gs.sep
  have hsg : sg.length ≤ 1 := by rcases Gs.sign with h | h <;> rw [h] <;> simp
  have hacc : acc.length = ps.length := by rw [strs_len hst, List.length_map]
  refine wpAny_execs_cons ?_
  refine Assign_Tuple_swapped ?_
  refine Tuple_ ?_
  refine args_cons (nameX_L (cl := []) F m0 ?_)
  refine args_cons (Constant_str (args_nil ?_))
  refine newTuple_N (s := { s with toks := _ }) F N (fun h₁ F₁ N₁ => ?_)
  refine unpackItems_x ⟨_, (N₁ _ (.head _)).1, rfl, _, rfl⟩ hh rfl (fun h₂ st₂ => ?_)
  have F₂ := fr_stays F₁ st₂
  have N₂ : News h₀ L h₂ ((Pp, listOf (List.toArray acc) ep') :: news) := fun q hq => news_stays N₁ st₂ q (.tail _ hq)
  refine assignInOrder_cons (bindName_ (storeX_L (cl := []) F₂ N₂ (fun h₃ F₃ N₃ => ?_)))
  refine assignInOrder_cons (bindName_ (storeX_L (cl := []) F₃ N₃ (fun h₄ F₄ N₄ => ?_)))
  refine assignInOrder_nil ?_
  dsimp only
  refine wpAny_execs_cons ?_
  refine wpAny_For ?_ (by intro _; rfl)
  refine nameX_L (cl := []) F₄ ((if_neg (by decide)).trans ((if_neg (by decide)).trans m8)) ?_
  refine list_iter_N (s := { s with heap := h₄, toks := _ }) (vs := acc) F₄ N₄ (News.isList N₄ (.head _)) (fun I h₅ o F₅ N₅ hI5 it5 => ?_)
  refine list_for (cl := []) (vs := acc) (ep := ep') hh (fun i m' news' => news' = (Pp, listOf (List.toArray acc) ep') :: news ∧ (∃ u1 u2 u3 u4, m' "left" = some (.str (mkS (LL left ps i)) u1) ∧ m' "right" = some (.str (mkS (RR sp ps i)) u2) ∧ m' "ahead" = some (.int ((a - i * sp.length : Nat) : Int) u3) ∧ m' "behind" = some (.int ((b - (i * sp.length - a) : Nat) : Int) u4)) ∧
      m' "sign" = m "sign" ∧ m' "separator" = m "separator" ∧ m' "due" = m "due") (fun _ _ _ h => h.1 ▸ .head _) F₅ N₅ hI5 it5 ⟨rfl, ⟨t0, s.toks, t5, t6, ?_, ?_, ?_, ?_⟩, rfl, rfl, rfl⟩ ?_ ?_
  · rw [LL_zero cut]; rfl
  · rfl
  · rw [Nat.zero_mul, Nat.sub_zero]; exact m5
  · rw [Nat.zero_mul, Nat.zero_sub, Nat.sub_zero]; exact m6
  · rintro i s' m' _ v o' hv ⟨rfl, ⟨u1, u2, u3, u4, e1, e2, e3, e4⟩, f1, f2, f3⟩ hn' hs' F' N'
    obtain ⟨y, t, rfl, hy⟩ := strs_get hst hv
    have hi : i < ps.length := by
      rw [List.getElem?_map] at hy
      cases h9 : ps[i]? with
      | none => rw [h9] at hy; cases hy
      | some q => exact (List.getElem?_eq_some_iff.mp h9).1
    have ey : y = mkS ps[i] := by
      rw [List.getElem?_map, List.getElem?_eq_getElem hi] at hy
      exact (Option.some.inj hy).symm
    subst ey
    refine ln_turn2 (i := i) (a := a - i * sp.length) (b := b - (i * sp.length - a)) Gs B F' N' X T hA hroom hh cut hi (by omega) ((if_neg (by decide)).trans (f1.trans m1)) ((if_neg (by decide)).trans (f2.trans m2)) ((if_neg (by decide)).trans e1) ((if_neg (by decide)).trans e2) ((if_neg (by decide)).trans e3) ((if_neg (by decide)).trans e4) (if_pos rfl) ?_
    intro h₆ tk₆ m₆ w1 w2 w3 w4 F₆ N₆ g1 g2 g3 g4 g5
    refine ⟨?_⟩
    have ea : a - i * sp.length - sp.length = a - (i + 1) * sp.length := by rw [Nat.add_mul, Nat.one_mul]; omega
    have eb : b - (i * sp.length - a) - (sp.length - (a - i * sp.length)) = b - ((i + 1) * sp.length - a) := by rw [Nat.add_mul, Nat.one_mul]; omega
    rw [ea] at g3
    rw [eb] at g4
    refine ⟨_, _, ⟨rfl, ⟨w1, w2, w3, w4, g1, g2, g3, g4⟩, ?_, ?_, ?_⟩, hn', hs', F₆, N₆⟩
    · exact (g5 _ (by decide) (by decide) (by decide) (by decide) (by decide) (by decide)).trans ((if_neg (by decide)).trans f1)
    · exact (g5 _ (by decide) (by decide) (by decide) (by decide) (by decide) (by decide)).trans ((if_neg (by decide)).trans f2)
    · exact (g5 _ (by decide) (by decide) (by decide) (by decide) (by decide) (by decide)).trans ((if_neg (by decide)).trans f3)
  · rintro s' m' _ ⟨rfl, ⟨u1, u2, u3, u4, e1, e2, e3, e4⟩, f1, f2, f3⟩ hs' F' N'
    refine ⟨?_⟩
    rw [hacc] at e1 e2 e3 e4
    rw [LL_end] at e1
    rw [RR_end] at e2
    have l0 := core_length Gs cut (i := ps.length) (Nat.le_refl _)
    rw [LL_end, RR_end] at l0
    dsimp only
    refine wpAny_execs_cons ?_
    refine wpAny_Return_some ?_
    refine wpAny_Compare1 ?_
    refine wpAny_BinOp ?_
    refine wpAny_BinOp ?_
    refine wpAny_BinOp ?_
    refine wpAny_BinOp ?_
    refine wpAny_BinOp (Constant_str (nameX_L (cl := []) F' e3 ?_))
    refine mulS (by omega) (by omega) (fun v1 l1 => ?_)
    rw [Int.toNat_natCast]
    refine nameX_L (cl := []) F' (f1.trans m1) ?_
    refine addS (fun v2 l2 => ?_) (by rw [List.length_replicate]; omega)
    refine nameX_L (cl := []) F' e1 ?_
    refine addS (fun v3 l3 => ?_) (by rw [List.length_append, List.length_replicate]; omega)
    refine nameX_L (cl := []) F' e2 ?_
    refine addS (fun v4 l4 => ?_) (by rw [List.length_append, List.length_append, List.length_replicate]; omega)
    refine wpAny_BinOp (Constant_str (nameX_L (cl := []) F' e4 ?_))
    refine mulS (by omega) (by omega) (fun v5 l5 => ?_)
    rw [Int.toNat_natCast]
    refine addS (fun v6 l6 => ?_) (by rw [List.length_append, List.length_append, List.length_append, List.length_replicate, List.length_replicate]; omega)
    refine nameX_L (cl := []) F' (f3.trans m7) ?_
    refine eqS ?_
    have hmo : MO ns es sp fs = ps.length * sp.length := by rw [mo_eq cut hcl, Nat.mul_comm]
    have e : List.replicate (a - ps.length * sp.length) 32 ++ sg ++ left ++ tailOf sp ps ++ List.replicate (b - (ps.length * sp.length - a)) 32 = pb (a - MO ns es sp fs) (sg ++ PT ns es sp fs) (b - (MO ns es sp fs - a)) := by
      rw [hmo, ← hcl]; simp [pb]
    rw [decide_eq_true e]
    exact (k { s' with toks := l6 } m' hs' F' N').go
end

theorem line03 {prog : Program} {w : World} {A A₀ : Around} {E : Value → Shared → Prop} {s : Shared} {h₀ base : Heap} {L : Addr} {m mg mb : Str → Option Value} {news : List (Addr × Obj)} {p : Program} {loose : List Str} {mean : ExcName → Option Value} {Q : Value → Shared → Prop} {env : Env} {outer : List Env}
    {ls le : Addr} {vs us : List Value} {ns es : List Int} {el ee : Nat} {sg fs sp : List Nat} {t1 t2 t3 t4 : Tok} {chosen : Int} (Gs : Args sg fs sp ns es)
    (B : Below A₀ base outer h₀) (F : Fr h₀ L s.heap m) (X₀ : (Mine.hd03.heap_39 w.params).In h₀) (N : News h₀ L s.heap news) (T : Top p loose mean mg mb h₀) (hA : A.frames = some (env :: outer)) (hf : env.frame = some L) (hke : env.scope.kind = .function)
    (hroom : A.depth + 1 < recursionLimit) (hh : A.handled = none) (hu : ∀ e, (A.deeper e).units + 64 < cLine)
    (hR : (ls, listOf (List.toArray vs) el) ∈ news) (hI : IntsAre vs ns) (hE : (le, listOf (List.toArray us) ee) ∈ news) (hJ : IntsAre us es)
    (hQ : ∀ s', Sim s s' → Fr h₀ L s'.heap m → News h₀ L s'.heap news → Go (Q (.bool true) s')) :
    wpAny (model prog w) A (call (.ref 40) [.str (mkS sg) t1, .str (mkS fs) t2, .ref ls, .ref le, .str (mkS sp) t3, .int chosen t4]) Q E s := by
  refine wpAny_call (code_def (K := Mine.hd03.heap_39 w.params) B F X₀ N T hA hf hke rfl rfl (by omega) (BindsTo.of_eq rfl) (locs rfl) ?_ rfl rfl rfl (by decide))
  intro g L' h₁ FG F' N' B' X' T'
  dsimp only
  have hpl : fs.length ≤ (PT ns es sp fs).length ∧ (PT ns es sp fs).length ≤ 3 * fs.length := P_length Gs.sep fs true 0
  have hsh := Gs.short
  have hsg : sg.length ≤ 1 := by rcases Gs.sign with h | h <;> rw [h] <;> simp
  have hmo : MO ns es sp fs ≤ 60 := by show (PT ns es sp fs).length - fs.length ≤ 60; omega
  have hA' := Around.frames_deeper (env := envOf "_law_line" lnS L' 40 (.ref 39)) hA
  refine Go.go ?_
  refine ln_parted (fa := 40) (cd := .ref 39) (chosen := chosen) (s := { s with heap := h₁, toks := _ }) Gs B' F' N' X' T' hA' hroom hh (hu _) hR hI hE hJ rfl rfl rfl rfl rfl rfl ?_
  intro s₁ m₁ u1 u2 S₁ F₁ N₁ K₁ c1 p1 p2
  refine ln_pad (mo := MO ns es sp fs) (by omega) F₁ N₁ (c1.trans rfl) p2 ?_
  intro h₂ tk₂ m₂ a b pv u3 u4 u5 F₂ N₂ K₂ q1 q2 hab q3 hpv q4 q5
  refine ln_due (s := { s₁ with heap := h₂, toks := tk₂ }) (mo := MO ns es sp fs) (a := a) (b := b) (by omega) (by rw [List.length_append]; omega) hab hpv hh F₂ N₂ X' (topRead_of T') (q1.trans p1) (q2.trans p2) q3 q4 q5 ?_
  intro h₃ tk₃ m₃ u6 F₃ N₃ K₃ q6 q7 q8
  have K123 := (K₁.trans K₂).trans K₃
  refine ln_cut (s := { s₁ with heap := h₃, toks := tk₃ }) (sg := sg) Gs F₃ N₃ X' T' hroom hh hR hI hE hJ (K123.2.1.trans rfl) (K123.2.2.1.trans rfl) (K123.2.2.2.1.trans rfl) ?_
  intro s₄ m₄ Pp left ps acc ep' j t' S₄ F₄ N₄ hst cut hcl e1 e2 K₄ K₄'
  have K := K123.trans K₄
  refine ln_whole Gs F₄ N₄ hst cut hcl (K.1.trans rfl) (K.2.2.2.2.trans rfl) e1 e2 ?_
  intro h₅ tk₅ m₅ u7 F₅ N₅ e3 e4
  refine ln_check1 (s := { s₄ with heap := h₅, toks := tk₅ }) (a := a) (b := b) Gs B' F₅ N₅ X' T' hA' hroom hh hst cut hcl hab ((e4 _ (by decide)).trans (K₄'.1.trans (q6.trans q4))) ((e4 _ (by decide)).trans (K₄'.2.1.trans (q7.trans q5))) e3 ((e4 _ (by decide)).trans (K.2.2.2.2.trans rfl)) ((e4 _ (by decide)).trans e1) ((e4 _ (by decide)).trans (K₄'.2.2.trans q8)) ?_
  intro h₆ tk₆ F₆ N₆
  refine ln_check2 (s := { s₄ with heap := h₆, toks := tk₆ }) (u := sg ++ PT ns es sp fs) (by rw [List.length_append]; omega) B' F₆ N₆ X' T' hA' hroom hh e3 ?_
  intro h₇ tk₇ F₇ N₇
  refine ln_second (s := { s₄ with heap := h₇, toks := tk₇ }) (a := a) (b := b) Gs B' F₇ N₇ X' T' hA' hroom hh hst cut hcl (by omega) ((e4 _ (by decide)).trans (K.2.1.trans rfl)) ((e4 _ (by decide)).trans (K.1.trans rfl)) ((e4 _ (by decide)).trans (K.2.2.2.2.trans rfl)) ((e4 _ (by decide)).trans (K₄'.1.trans (q6.trans q4))) ((e4 _ (by decide)).trans (K₄'.2.1.trans (q7.trans q5))) ((e4 _ (by decide)).trans e1) ((e4 _ (by decide)).trans (K₄'.2.2.trans q8)) ?_
  intro s₈ m₈ S₈ F₈ N₈
  refine ⟨?_⟩
  refine leaveK_ F₈ N₈ fun F₉ N₉ => ?_
  refine (hQ s₈ ?_ F₉ (fun q hq => N₉ q (.tail _ hq))).go
  exact ((Sim.trans (s' := s₁) S₁ (Sim.trans (s' := s₄) S₄ S₈)))
end Mine
/- the law: numbers, separator, last, sizes, end -/
namespace Mine
def lawB : List Stmt := fnBody PySem.Challenge.pw_dm0204_03 7
def lawS : Scope := fnScope PySem.Challenge.pw_dm0204_03 7
abbrev lawE (L fa : Addr) (cd : Value) : Env := envOf "law" lawS L fa cd

section
variable {prog : Program} {w : World} {A : Around} {E : Value → Shared → Prop} {s : Shared} {h₀ : Heap} {L fa : Addr} {m mg mb : Str → Option Value} {cd : Value} {Q : Flow → Shared → Prop} {p : Program} {loose : List Str} {news : List (Addr × Obj)}

/-- numbers = script[:16] if script != [] else [1234565, 303] -/
theorem l3_numbers {l : Addr} {vs : List Value} {ns : List Int} (F : Fr h₀ L s.heap m) (N : News h₀ L s.heap news) (hm : m "script" = some (.ref l)) (hl : h₀.IsList l vs.toArray) (hI : IntsAre vs ns) (hlen : ns.length ≤ 63) (hu : A.units + 64 < cLine)
    (k : ∀ h' tk D us nums ep m', Fr h₀ L h' m' → News h₀ L h' ((D, listOf (List.toArray us) ep) :: news) → IntsAre us nums → nums ≠ [] → nums.length ≤ 16 → m' "numbers" = some (.ref D) → Go (wpAny (model prog w) A (execs (lawB.drop 1) (lawE L fa cd)) Q E { s with heap := h', toks := tk })) :
    Go (wpAny (model prog w) A (execs lawB (lawE L fa cd)) Q E s) := by
  refine ⟨?_⟩
  have hsl : sizeLine = 16777216 := rfl
  have hvl : vs.length = ns.length := hI.length
  refine wpAny_execs_cons (wpAny_Assign_Name (IfExp_ (wpAny_isTrue_Compare1 (nameX_L (cl := []) F hm (List_ (args_nil ?_))))))
  refine newList_N F N (fun h₁ F₁ N₁ => ?_)
  have N₁' : News h₀ L h₁ news := fun q hq => N₁ q (.tail _ hq)
  refine ne_intsK (stays_list F₁.keep hl) hI (News.isList N₁ (.head _)) .nil hu (wpAny_truthy_bool ?_)
  by_cases hne : ns = []
  · rw [decide_eq_true hne]
    simp only [Bool.not_true, Bool.false_eq_true, if_false]
    refine List_ (args_cons (wpAny_Constant_int (args_cons (wpAny_Constant_int (args_nil ?_)))))
    refine newList_N F₁ N₁' (fun h₂ F₂ N₂ => ?_)
    refine storeX_L (cl := []) F₂ N₂ (fun h₃ F₃ N₃ => ?_)
    dsimp only
    show wpAny (model prog w) A (execs (lawB.drop 1) (lawE L fa cd)) Q E _
    refine Go.go ?_
    exact k h₃ _ _ _ [1234565, 303] _ _ F₃ N₃ (.cons _ _ (.cons _ _ .nil)) (by simp) (by simp) (if_pos rfl)
  · rw [decide_eq_false hne]
    simp only [Bool.not_false, if_true]
    refine Subscript_ (nameX_L (cl := []) F₁ hm (wpAny_Slice (evalPart_none_step (evalPart_some_step (wpAny_Constant_int (evalPart_none_step ?_))))))
    refine kmk_slice (s := { s with heap := h₁, toks := _ }) F₁ N₁' (stays_list F₁.keep hl) .none (.int _ _) (fun D₂ h₂ F₂ N₂ _ => ?_) rfl (fun _ => rfl) (by simp only [List.size_toArray]; omega)
    have hI2 := kmk_upto (y := 16) hI (by omega)
    refine storeX_L (cl := []) F₂ N₂ (fun h₃ F₃ N₃ => ?_)
    have hp : 0 < ns.length := List.length_pos_iff.mpr hne
    dsimp only
    show wpAny (model prog w) A (execs (lawB.drop 1) (lawE L fa cd)) Q E _
    refine Go.go ?_
    refine k h₃ _ D₂ _ _ 0 _ F₃ ?_ hI2 (fun e => ?_) ?_ (if_pos rfl)
    · rw [Array.toArray_toList]; exact N₃
    · have := congrArg List.length e
      rw [List.length_take, List.length_nil, show (16 : Int).toNat = 16 from rfl] at this
      omega
    · rw [List.length_take]; exact Nat.min_le_left _ _


theorem c_comma : Str.ofString "," = mkS [44] := by decide +kernel
theorem c_blank : Str.ofString " " = mkS [32] := by decide +kernel
theorem c_none : Str.ofString "" = mkS [] := by decide +kernel
theorem c_commab : Str.ofString ", " = mkS [44, 32] := by decide +kernel
theorem c_dots : Str.ofString ".." = mkS [46, 46] := by decide +kernel

/-- separator = [',', ' ', '', ', ', '..'][numbers[0] % 5] -/
theorem l3_sep {D : Addr} {us : List Value} {nums : List Int} {ep : Nat} (F : Fr h₀ L s.heap m) (N : News h₀ L s.heap news) (hD : (D, listOf (List.toArray us) ep) ∈ news) (hI : IntsAre us nums) (hne : nums ≠ []) (hlen : nums.length ≤ 16) (hm : m "numbers" = some (.ref D))
    (k : ∀ h' tk m' sp t, Fr h₀ L h' m' → News h₀ L h' news → sp.length ≤ 2 → m' "separator" = some (.str (mkS sp) t) → (∀ y, y ≠ ("separator" : Str) → m' y = m y) → Go (wpAny (model prog w) A (execs (lawB.drop 2) (lawE L fa cd)) Q E { s with heap := h', toks := tk })) :
    Go (wpAny (model prog w) A (execs (lawB.drop 1) (lawE L fa cd)) Q E s) := by
  refine ⟨?_⟩
  have hp : 0 < nums.length := List.length_pos_iff.mpr hne
  refine wpAny_execs_cons ?_
  refine wpAny_Assign_Name ?_
  refine Subscript_ ?_
  refine List_ ?_
  refine args_cons (Constant_str (args_cons (Constant_str (args_cons (Constant_str (args_cons (Constant_str (args_cons (Constant_str (args_nil ?_))))))))))
  refine newList_N (s := { s with toks := _ }) F N (fun h₁ F₁ N₁ => ?_)
  refine wpAny_BinOp ?_
  refine Subscript_ (nameX_L (cl := []) F₁ hm (wpAny_Constant_int ?_))
  refine item_at (s := { s with heap := h₁, toks := _ }) (News.isList N₁ (.tail _ hD)) hI (by omega) (by omega) (by omega) (fun t1 => ?_)
  refine wpAny_Constant_int (mod_int' (by decide) ?_)
  have r : 0 ≤ (nums.getD (0 : Int).toNat 0).fmod 5 ∧ (nums.getD (0 : Int).toNat 0).fmod 5 < 5 := ⟨Int.fmod_nonneg_of_pos _ (by decide), Int.fmod_lt_of_pos _ (by decide)⟩
  generalize (nums.getD (0 : Int).toNat 0).fmod 5 = i at *
  refine kba_turn (value' := PySem.Expr.Name (PySem.Str.ofString "_") ⟨0, 0, 0, 0⟩) (fun _ => rfl) ?_
  have fin : ∀ (sp : List Nat) (t : Tok) (tk : Nat), sp.length ≤ 2 → wpAny (model prog w) A (storeName (lawE L fa cd) "separator" (.str (mkS sp) t)) (fun _ s' => Go (wpAny (model prog w) A (execs (lawB.drop 2) (lawE L fa cd)) Q E s')) E { s with heap := h₁, toks := tk } := by
    intro sp t tk hsp
    refine storeX_L (s := { s with heap := h₁, toks := tk }) (cl := []) F₁ (fun q hq => N₁ q (.tail _ hq)) (fun h₂ F₂ N₂ => ?_)
    exact k h₂ _ _ sp t F₂ N₂ hsp (if_pos rfl) (fun y hy => if_neg hy)
  obtain h | h | h | h | h : i = 0 ∨ i = 1 ∨ i = 2 ∨ i = 3 ∨ i = 4 := by omega
  · subst h
    refine item_listL (s := { s with heap := h₁, toks := _ }) (News.isList N₁ (.head _)) (by decide) (by decide) rfl ?_
    rw [c_comma]
    exact wpAny_mono (fin [44] _ _ (by decide)) (fun _ s' h => h.go) fun _ _ h => h
  · subst h
    refine item_listL (s := { s with heap := h₁, toks := _ }) (News.isList N₁ (.head _)) (by decide) (by decide) rfl ?_
    rw [c_blank]
    exact wpAny_mono (fin [32] _ _ (by decide)) (fun _ s' h => h.go) fun _ _ h => h
  · subst h
    refine item_listL (s := { s with heap := h₁, toks := _ }) (News.isList N₁ (.head _)) (by decide) (by decide) rfl ?_
    rw [c_none]
    exact wpAny_mono (fin [] _ _ (by decide)) (fun _ s' h => h.go) fun _ _ h => h
  · subst h
    refine item_listL (s := { s with heap := h₁, toks := _ }) (News.isList N₁ (.head _)) (by decide) (by decide) rfl ?_
    rw [c_commab]
    exact wpAny_mono (fin [44, 32] _ _ (by decide)) (fun _ s' h => h.go) fun _ _ h => h
  · subst h
    refine item_listL (s := { s with heap := h₁, toks := _ }) (News.isList N₁ (.head _)) (by decide) (by decide) rfl ?_
    rw [c_dots]
    exact wpAny_mono (fin [46, 46] _ _ (by decide)) (fun _ s' h => h.go) fun _ _ h => h

/-- last = numbers[-1] -/
theorem l3_last {D : Addr} {us : List Value} {nums : List Int} {ep : Nat} (F : Fr h₀ L s.heap m) (N : News h₀ L s.heap news) (hD : (D, listOf (List.toArray us) ep) ∈ news) (hI : IntsAre us nums) (hne : nums ≠ []) (hlen : nums.length ≤ 16) (hm : m "numbers" = some (.ref D))
    (k : ∀ h' tk m' x t, Fr h₀ L h' m' → News h₀ L h' news → m' "last" = some (.int x t) → (∀ y, y ≠ ("last" : Str) → m' y = m y) → Go (wpAny (model prog w) A (execs (lawB.drop 3) (lawE L fa cd)) Q E { s with heap := h', toks := tk })) :
    Go (wpAny (model prog w) A (execs (lawB.drop 2) (lawE L fa cd)) Q E s) := by
  refine ⟨?_⟩
  refine wpAny_execs_cons ?_
  refine wpAny_Assign_Name ?_
  refine Subscript_ (nameX_L (cl := []) F hm (wpAny_UnaryOp (wpAny_Constant_int (PyProof.Rows.neg_int ?_))))
  refine item_last (s := { s with toks := _ }) (News.isList N hD) hI hne (by omega) (fun t => ?_)
  refine storeX_L (s := { s with toks := _ }) (cl := []) F N (fun h₁ F₁ N₁ => ?_)
  dsimp only
  show wpAny (model prog w) A (execs (lawB.drop 3) (lawE L fa cd)) Q E _
  refine Go.go ?_
  exact k h₁ _ _ _ t F₁ N₁ (if_pos rfl) (fun y hy => if_neg hy)

theorem five_in (x d : Int) : 1 ≤ 1 + (x.fdiv d).fmod 5 ∧ 1 + (x.fdiv d).fmod 5 ≤ 5 := by
  have h1 : 0 ≤ (x.fdiv d).fmod 5 := Int.fmod_nonneg_of_pos _ (by decide)
  have h2 : (x.fdiv d).fmod 5 < 5 := Int.fmod_lt_of_pos _ (by decide)
  omega

theorem three_elim {P : Prop} {h : Heap} {l : Addr} {a b c : Int} {t u v : Tok} (hl : h.IsList l (List.toArray [.int a t, .int b u, .int c v])) (ha : 1 ≤ a ∧ a ≤ 5) (hb : 1 ≤ b ∧ b ≤ 5) (hc : 1 ≤ c ∧ c ≤ 5)
    (k : ∀ (vs3 : List Value) (ns3 : List Int), h.IsList l vs3.toArray → IntsAre vs3 ns3 → (∀ x ∈ ns3, 1 ≤ x ∧ x ≤ 5) → ns3.length = 3 → P) : P :=
  k _ _ hl (.cons _ _ (.cons _ _ (.cons _ _ .nil))) (List.forall_mem_cons.mpr ⟨ha, List.forall_mem_cons.mpr ⟨hb, List.forall_mem_cons.mpr ⟨hc, List.forall_mem_nil _⟩⟩⟩) rfl

/-- sizes = [..][:1 + last // 3 % 3] -/
theorem l3_sizes {last : Int} {tl : Tok} (F : Fr h₀ L s.heap m) (N : News h₀ L s.heap news) (hm : m "last" = some (.int last tl))
    (k : ∀ h' tk m' D ws ns, Fr h₀ L h' m' → News h₀ L h' ((D, listOf (List.toArray ws) 0) :: news) → IntsAre ws ns → Sized ns → ns.length ≤ 3 → m' "sizes" = some (.ref D) → (∀ y, y ≠ ("sizes" : Str) → m' y = m y) → Go (wpAny (model prog w) A (execs (lawB.drop 4) (lawE L fa cd)) Q E { s with heap := h', toks := tk })) :
    Go (wpAny (model prog w) A (execs (lawB.drop 3) (lawE L fa cd)) Q E s) := by
  refine ⟨?_⟩
  refine wpAny_execs_cons ?_
  refine wpAny_Assign_Name ?_
  refine Subscript_ ?_
  refine List_ ?_
  refine args_cons ?_
  refine wpAny_BinOp (wpAny_Constant_int (wpAny_BinOp (wpAny_BinOp (nameX_L (cl := []) F hm (wpAny_Constant_int (floordiv_int (by decide) (wpAny_Constant_int (mod_int' (by decide) (PyProof.Rows.add_int ?_)))))))))
  refine args_cons ?_
  refine wpAny_BinOp (wpAny_Constant_int (wpAny_BinOp (wpAny_BinOp (nameX_L (cl := []) F hm (wpAny_Constant_int (floordiv_int (by decide) (wpAny_Constant_int (mod_int' (by decide) (PyProof.Rows.add_int ?_)))))))))
  refine args_cons ?_
  refine wpAny_BinOp (wpAny_Constant_int (wpAny_BinOp (wpAny_BinOp (nameX_L (cl := []) F hm (wpAny_Constant_int (floordiv_int (by decide) (wpAny_Constant_int (mod_int' (by decide) (PyProof.Rows.add_int (args_nil ?_))))))))))
  refine newList_N (s := { s with toks := _ }) F N (fun h₁ F₁ N₁ => ?_)
  refine wpAny_Slice (evalPart_none_step (evalPart_some_step ?_))
  refine wpAny_BinOp (wpAny_Constant_int (wpAny_BinOp (wpAny_BinOp (nameX_L (cl := []) F₁ hm (wpAny_Constant_int (floordiv_int (by decide) (wpAny_Constant_int (mod_int' (by decide) (PyProof.Rows.add_int (evalPart_none_step ?_))))))))))
  have r : 0 ≤ (last.fdiv 3).fmod 3 ∧ (last.fdiv 3).fmod 3 < 3 := ⟨Int.fmod_nonneg_of_pos _ (by decide), Int.fmod_lt_of_pos _ (by decide)⟩
  refine kba_turn (value' := PySem.Expr.Name (PySem.Str.ofString "_") ⟨0, 0, 0, 0⟩) (fun _ => rfl) ?_
  refine three_elim (News.isList N₁ (.head _)) (five_in last 9) (five_in last 45) (five_in last 225) (fun vs3 ns3 hl3 hI3 hS3 hn3 => ?_)
  have hv3 : vs3.length = 3 := hI3.length.trans hn3
  refine kmk_slice (s := { s with heap := h₁, toks := _ }) F₁ N₁ hl3 .none (.int _ _) (fun D₂ h₂ F₂ N₂ _ => ?_) rfl (fun _ => rfl) (by rw [List.size_toArray, hv3]; have hsl : sizeLine = 16777216 := rfl; omega)
  have hS : Sized (ns3.take (1 + (last.fdiv 3).fmod 3).toNat) := by
    refine ⟨fun e => ?_, fun x hx => hS3 x (List.mem_of_mem_take hx)⟩
    have := congrArg List.length e
    rw [List.length_take, hn3, List.length_nil] at this
    omega
  refine storeX_L (s := { s with heap := h₂, toks := _ }) (cl := []) F₂ N₂ (fun h₃ F₃ N₃ => ?_)
  dsimp only
  show wpAny (model prog w) A (execs (lawB.drop 4) (lawE L fa cd)) Q E _
  refine Go.go ?_
  refine k h₃ _ _ D₂ _ _ F₃ (fun q hq => ?_) (kmk_upto (y := 1 + (last.fdiv 3).fmod 3) hI3 (by omega)) hS (by rw [List.length_take, hn3]; omega) (if_pos rfl) (fun y hy => if_neg hy)
  rcases List.mem_cons.mp hq with rfl | hq
  · rw [Array.toArray_toList]; exact N₃ _ (.head _)
  · exact N₃ q (.tail _ (.tail _ hq))

/-- end = [[0], [127], []][last % 3] -/
theorem l3_end {last : Int} {tl : Tok} (F : Fr h₀ L s.heap m) (N : News h₀ L s.heap news) (hm : m "last" = some (.int last tl))
    (k : ∀ h' tk m' D ws es news', Fr h₀ L h' m' → News h₀ L h' news' → (∀ q ∈ news, q ∈ news') → (D, listOf (List.toArray ws) 0) ∈ news' → IntsAre ws es → IsEnd es → m' "end" = some (.ref D) → (∀ y, y ≠ ("end" : Str) → m' y = m y) → Go (wpAny (model prog w) A (execs (lawB.drop 5) (lawE L fa cd)) Q E { s with heap := h', toks := tk })) :
    Go (wpAny (model prog w) A (execs (lawB.drop 4) (lawE L fa cd)) Q E s) := by
  refine ⟨?_⟩
  refine wpAny_execs_cons ?_
  refine wpAny_Assign_Name ?_
  refine Subscript_ ?_
  refine List_ ?_
  refine args_cons ?_
  refine List_ (args_cons (wpAny_Constant_int (args_nil ?_)))
  refine newList_K (s := { s with toks := _ }) F N (fun a1 h₁ F₁ N₁ l₁ => ?_)
  refine args_cons ?_
  refine List_ (args_cons (wpAny_Constant_int (args_nil ?_)))
  refine newList_K (s := { s with heap := h₁, toks := _ }) F₁ N₁ (fun a2 h₂ F₂ N₂ l₂ => ?_)
  refine args_cons ?_
  refine List_ (args_nil ?_)
  refine newList_K (s := { s with heap := h₂, toks := _ }) F₂ N₂ (fun a3 h₃ F₃ N₃ l₃ => ?_)
  refine args_nil ?_
  refine newList_K (s := { s with heap := h₃, toks := _ }) F₃ N₃ (fun a4 h₄ F₄ N₄ l₄ => ?_)
  refine wpAny_BinOp (nameX_L (cl := []) F₄ hm (wpAny_Constant_int (mod_int' (by decide) ?_)))
  have r : 0 ≤ last.fmod 3 ∧ last.fmod 3 < 3 := ⟨Int.fmod_nonneg_of_pos _ (by decide), Int.fmod_lt_of_pos _ (by decide)⟩
  generalize last.fmod 3 = i at *
  refine kba_turn (value' := PySem.Expr.Name (PySem.Str.ofString "_") ⟨0, 0, 0, 0⟩) (fun _ => rfl) ?_
  have pick : ∃ D ws es, [Value.ref a1, .ref a2, .ref a3][i.toNat]? = some (.ref D) ∧ (∀ news' : List (Addr × Obj), (∀ q ∈ [(a3, listOf (List.toArray []) 0), (a2, listOf (List.toArray [.int 127 (s.toks + 1)]) 0), (a1, listOf (List.toArray [.int 0 s.toks]) 0)], q ∈ news') → (D, listOf (List.toArray ws) 0) ∈ news') ∧ IntsAre ws es ∧ IsEnd es := by
    obtain h | h | h : i = 0 ∨ i = 1 ∨ i = 2 := by omega
    · subst h; exact ⟨a1, _, [0], rfl, fun n h => h _ (.tail _ (.tail _ (.head _))), .cons _ _ .nil, .inl rfl⟩
    · subst h; exact ⟨a2, _, [127], rfl, fun n h => h _ (.tail _ (.head _)), .cons _ _ .nil, .inr (.inl rfl)⟩
    · subst h; exact ⟨a3, _, [], rfl, fun n h => h _ (.head _), .nil, .inr (.inr rfl)⟩
  obtain ⟨D, ws, es, p1, p2, p3, p4⟩ := pick
  refine item_listL (s := { s with heap := h₄, toks := _ }) (News.isList N₄ (.head _)) r.1 (by omega) p1 ?_
  refine storeX_L (s := { s with heap := h₄, toks := _ }) (cl := []) F₄ N₄ (fun h₅ F₅ N₅ => ?_)
  dsimp only
  show wpAny (model prog w) A (execs (lawB.drop 5) (lawE L fa cd)) Q E _
  refine Go.go ?_
  refine k h₅ _ _ D ws es _ F₅ N₅ (fun q hq => .tail _ (.tail _ (.tail _ (.tail _ hq)))) (p2 _ fun q hq => ?_) p3 p4 (if_pos rfl) (fun y hy => if_neg hy)
  simp only [List.mem_cons, List.not_mem_nil, or_false] at hq
  rcases hq with rfl | rfl | rfl
  · exact .tail _ (.head _)
  · exact .tail _ (.tail _ (.head _))
  · exact .tail _ (.tail _ (.tail _ (.head _)))
end
end Mine
/- the law: a turn of its loop -/
namespace Mine
def digs (n : Nat) : List Nat := (Nat.toDigits 10 n).map Char.toNat
theorem digs_text (n : Nat) : Str.ofString (toString ((n : Nat) : Int)) = mkS (digs n) := text_ofNat n
theorem digs_solid (n : Nat) : ∀ c ∈ digs n, c ≠ 32 := by
  intro c hc
  obtain ⟨ch, h1, rfl⟩ := List.mem_map.mp hc
  have := digit_range (Nat.isDigit_of_mem_toDigits (b := 10) (by decide) (by decide) h1)
  omega
theorem digs_len {n : Nat} (h : n < 10 ^ 25) : (digs n).length ≤ 25 := by
  unfold digs
  rw [List.length_map]
  exact digits10_le (by decide) h
theorem abs25 (a : Int) : ∃ n : Nat, (if a < 0 then -a else a).fmod ((10 : Int) ^ (25 : Int).toNat) = n ∧ n < 10 ^ 25 := by
  have e : (10 : Int) ^ (25 : Int).toNat = 10000000000000000000000000 := by decide +kernel
  rw [e]
  have h1 : 0 ≤ (if a < 0 then -a else a).fmod 10000000000000000000000000 := Int.fmod_nonneg_of_pos _ (by decide)
  have h2 : (if a < 0 then -a else a).fmod 10000000000000000000000000 < 10000000000000000000000000 := Int.fmod_lt_of_pos _ (by decide)
  refine ⟨((if a < 0 then -a else a).fmod 10000000000000000000000000).toNat, by omega, ?_⟩
  have e2 : (10 : Nat) ^ 25 = 10000000000000000000000000 := by decide +kernel
  rw [e2]
  omega
theorem log25 {n : Nat} (h : n < 10 ^ 25) : ((n : Nat) : Int).natAbs.log2 < 1920 := by
  rw [Int.natAbs_natCast]
  rcases Nat.eq_zero_or_pos n with rfl | hp
  · decide
  · rw [Nat.log2_lt (Nat.ne_of_gt hp)]
    have e2 : (10 : Nat) ^ 25 = 10000000000000000000000000 := by decide +kernel
    have e3 : (2 : Nat) ^ 84 ≤ 2 ^ 1920 := Nat.pow_le_pow_right (by decide) (by decide)
    have e4 : (2 : Nat) ^ 84 = 19342813113834066795298816 := by decide +kernel
    omega
theorem c_tail : Str.ofString "04607" = mkS [48, 52, 54, 48, 55] := by decide +kernel
theorem c_minus : Str.ofString "-" = mkS [45] := by decide +kernel
def lawFor : List Stmt := match lawB.drop 5 with | .For _ _ b _ _ :: _ => b | _ => []

theorem args_of {sg sp : List Nat} {ns es : List Int} {n : Nat} (hs : sg = [] ∨ sg = [45]) (hn : n < 10 ^ 25) (hsp : sp.length ≤ 2) (hS : Sized ns) (h3 : ns.length ≤ 3) (hE : IsEnd es) : Args sg (digs n ++ [48, 52, 54, 48, 55]) sp ns es where
  sign := hs
  figs := fun c hc => by
    rcases List.mem_append.mp hc with h | h
    · exact digs_solid n c h
    · simp only [List.mem_cons, List.not_mem_nil, or_false] at h
      omega
  some := by simp
  short := by have := digs_len hn; rw [List.length_append]; simp only [List.length_cons, List.length_nil]; omega
  sep := hsp
  sized := hS
  three := h3
  fin := hE

section
variable {prog : Program} {w : World} {E : Value → Shared → Prop} {s : Shared} {h₀ : Heap} {L fa : Addr} {m mg mb : Str → Option Value} {cd : Value} {Q : Flow → Shared → Prop} {p : Program} {loose : List Str} {mean : ExcName → Option Value} {news : List (Addr × Obj)}
  {D ls le : Addr} {us vs ws : List Value} {nums ns es : List Int} {ep el ee j : Nat} {sp : List Nat} {tj t3 : Tok}

/-- figures, chosen, the call -/
theorem l3_rest {sg : List Nat} {t1 : Tok} (hsg : sg = [] ∨ sg = [45]) (B : Below callerA h₀ [] h₀) (F : Fr h₀ L s.heap m) (N : News h₀ L s.heap news) (X : (Mine.hd03.heap_39 w.params).In h₀) (T : Top p loose mean mg mb h₀)
    (hD : (D, listOf (List.toArray us) ep) ∈ news) (hI : IntsAre us nums) (hne : nums ≠ []) (hlen : nums.length ≤ 16) (hR : (ls, listOf (List.toArray vs) el) ∈ news) (hIn : IntsAre vs ns) (hS : Sized ns) (h3 : ns.length ≤ 3)
    (hE : (le, listOf (List.toArray ws) ee) ∈ news) (hIe : IntsAre ws es) (hEn : IsEnd es) (hsp : sp.length ≤ 2)
    (m0 : m "sign" = some (.str (mkS sg) t1)) (m1 : m "numbers" = some (.ref D)) (m2 : m "separator" = some (.str (mkS sp) t3)) (m3 : m "sizes" = some (.ref ls)) (m4 : m "end" = some (.ref le)) (m5 : m "k" = some (.int (j : Int) tj)) (hj : j < nums.length)
    (k : ∀ s' m', Sim s s' → Fr h₀ L s'.heap m' → News h₀ L s'.heap news → (∀ y, y ≠ ("figures" : Str) → y ≠ ("chosen" : Str) → m' y = m y) → Go (Q .next s')) :
    Go (wpAny (model prog w) (callerA.deeper (lawE L fa cd)) (execs (lawFor.drop 1) (lawE L fa cd)) Q E s) := by
  obtain ⟨n, hn, hn25⟩ := abs25 (nums.getD (j : Int).toNat 0)
  have hdl := digs_len hn25
  have hlen' : us.length = nums.length := hI.length
  have hsl : sizeLine = 16777216 := rfl
  have r0 : 0 ≤ ((j : Int) + 1).fmod (nums.length : Int) := Int.fmod_nonneg_of_pos _ (by omega)
  have r1 : ((j : Int) + 1).fmod (nums.length : Int) < nums.length := Int.fmod_lt_of_pos _ (by omega)
  have hu : ∀ e, ((callerA.deeper (lawE L fa cd)).deeper e).units + 64 < cLine := fun e => Nat.le_of_ble_eq_true rfl
  refine ⟨?_⟩
  refine wpAny_execs_cons ?_
  refine wpAny_Assign_Name ?_
  refine wpAny_BinOp ?_
  refine Call_ (nameX_B (cl := []) F X (topRead_of T) rfl boot_str (by decide) ?_)
  refine PyProof.Rows.callWith_type1 (args_cons ?_)
  refine wpAny_BinOp ?_
  refine Call_ (nameX_B (cl := []) F X (topRead_of T) rfl boot_abs (by decide) ?_)
  refine PyProof.Rows.callWith_builtin1 (args_cons ?_)
  refine Subscript_ (nameX_L (cl := []) F m1 (nameX_L (cl := []) F m5 ?_))
  refine item_at (News.isList N hD) hI (by omega) (by omega) (by omega) (fun t4 => args_nil ?_)
  refine call_abs_int (fun u1 k1 => ?_)
  refine wpAny_BinOp (wpAny_Constant_int (wpAny_Constant_int (pow_int_small (by decide) (by decide) (by decide) ?_)))
  refine mod_int' (by decide +kernel) ?_
  rw [hn]
  refine args_nil ?_
  refine PySem.P.str_of_int (log25 hn25) ?_
  rw [digs_text]
  refine Constant_str ?_
  rw [c_tail]
  refine addS (fun u2 k2 => ?_) (by simp only [List.length_cons, List.length_nil]; omega)
  refine storeX_L (s := { s with toks := _ }) (cl := []) F N (fun h₁ F₁ N₁ => ?_)
  dsimp only
  -- chosen = numbers[(k + 1) % len(numbers)]
  refine wpAny_execs_cons ?_
  refine wpAny_Assign_Name ?_
  refine Subscript_ (nameX_L (cl := []) F₁ ((if_neg (by decide)).trans m1) ?_)
  refine wpAny_BinOp (wpAny_BinOp (nameX_L (cl := []) F₁ ((if_neg (by decide)).trans m5) (wpAny_Constant_int (PyProof.Rows.add_int ?_))))
  refine Call_ (nameX_B (cl := []) F₁ X (topRead_of T) rfl boot_len (by decide) ?_)
  refine PyProof.Rows.callWith_builtin1 (args_cons (nameX_L (cl := []) F₁ ((if_neg (by decide)).trans m1) (args_nil ?_)))
  refine len_list (s := { s with heap := h₁, toks := _ }) (News.isList N₁ hD) (by simp only [List.size_toArray]; omega) ?_
  rw [List.size_toArray, hlen']
  refine mod_int' (by omega) ?_
  refine item_at (s := { s with heap := h₁, toks := _ }) (News.isList N₁ hD) hI r0 r1 (by omega) (fun t5 => ?_)
  refine storeX_L (s := { s with heap := h₁, toks := _ }) (cl := []) F₁ N₁ (fun h₂ F₂ N₂ => ?_)
  dsimp only
  -- if not _law_line(..): return False
  refine wpAny_execs_cons ?_
  refine wpAny_If ?_
  refine isTrue_not ?_
  refine isTrue_plain ?_
  refine Call_ (nameX_K (cl := []) F₂ X (topRead_of T) rfl ?_)
  refine callWith_K X (by rfl) (args_cons (nameX_L (cl := []) F₂ ((if_neg (by decide)).trans ((if_neg (by decide)).trans m0)) ?_))
  refine args_cons (nameX_L (cl := []) F₂ ((if_neg (by decide)).trans (if_pos rfl)) ?_)
  refine args_cons (nameX_L (cl := []) F₂ ((if_neg (by decide)).trans ((if_neg (by decide)).trans m3)) ?_)
  refine args_cons (nameX_L (cl := []) F₂ ((if_neg (by decide)).trans ((if_neg (by decide)).trans m4)) ?_)
  refine args_cons (nameX_L (cl := []) F₂ ((if_neg (by decide)).trans ((if_neg (by decide)).trans m2)) ?_)
  refine args_cons (nameX_L (cl := []) F₂ (if_pos rfl) (args_nil ?_))
  refine ⟨X.keeps F₂.keep, ?_⟩
  refine line03 (s := { s with heap := h₂, toks := _ }) (args_of hsg hn25 hsp hS h3 hEn) B F₂ X N₂ T rfl rfl rfl (by show 1 + claimMargin + 1 + 1 < recursionLimit; decide) rfl hu hR hIn hE hIe ?_
  intro s₃ S₃ F₃ N₃
  refine ⟨?_⟩
  refine wpAny_truthy_bool ?_
  simp only [Bool.not_true, Bool.false_eq_true, if_false]
  refine wpAny_execs_nil ?_
  dsimp only
  refine wpAny_execs_nil ?_
  exact (k s₃ _ S₃ F₃ N₃ (fun y y1 y2 => (if_neg y2).trans (if_neg y1))).go

/-- a turn -/
theorem l3_turn (B : Below callerA h₀ [] h₀) (F : Fr h₀ L s.heap m) (N : News h₀ L s.heap news) (X : (Mine.hd03.heap_39 w.params).In h₀) (T : Top p loose mean mg mb h₀)
    (hD : (D, listOf (List.toArray us) ep) ∈ news) (hI : IntsAre us nums) (hne : nums ≠ []) (hlen : nums.length ≤ 16) (hR : (ls, listOf (List.toArray vs) el) ∈ news) (hIn : IntsAre vs ns) (hS : Sized ns) (h3 : ns.length ≤ 3)
    (hE : (le, listOf (List.toArray ws) ee) ∈ news) (hIe : IntsAre ws es) (hEn : IsEnd es) (hsp : sp.length ≤ 2)
    (m1 : m "numbers" = some (.ref D)) (m2 : m "separator" = some (.str (mkS sp) t3)) (m3 : m "sizes" = some (.ref ls)) (m4 : m "end" = some (.ref le)) (m5 : m "k" = some (.int (j : Int) tj)) (hj : j < nums.length)
    (k : ∀ s' m', Sim s s' → Fr h₀ L s'.heap m' → News h₀ L s'.heap news → (∀ y, y ≠ ("sign" : Str) → y ≠ ("figures" : Str) → y ≠ ("chosen" : Str) → m' y = m y) → Go (Q .next s')) :
    Go (wpAny (model prog w) (callerA.deeper (lawE L fa cd)) (execs lawFor (lawE L fa cd)) Q E s) := by
  refine ⟨?_⟩
  refine wpAny_execs_cons ?_
  refine wpAny_Assign_Name ?_
  refine IfExp_ ?_
  refine wpAny_isTrue_Compare1 ?_
  refine Subscript_ (nameX_L (cl := []) F m1 (nameX_L (cl := []) F m5 ?_))
  refine item_at (News.isList N hD) hI (by omega) (by omega) (by omega) (fun t4 => ?_)
  refine wpAny_Constant_int (PyProof.Rows.lt_int (wpAny_truthy_bool ?_))
  have go : ∀ (sg : List Nat) (t : Tok) (h₁ : Heap) (tk : Nat), (sg = [] ∨ sg = [45]) → Fr h₀ L h₁ (fun y => if y = Str.ofString "sign" then some (.str (mkS sg) t) else m y) → News h₀ L h₁ news → Go (wpAny (model prog w) (callerA.deeper (lawE L fa cd)) (execs (lawFor.drop 1) (lawE L fa cd)) Q E { s with heap := h₁, toks := tk }) := by
    intro sg t h₁ tk hsg F₁ N₁
    refine l3_rest (s := { s with heap := h₁, toks := tk }) hsg B F₁ N₁ X T hD hI hne hlen hR hIn hS h3 hE hIe hEn hsp (if_pos rfl) ((if_neg (by decide)).trans m1) ((if_neg (by decide)).trans m2) ((if_neg (by decide)).trans m3) ((if_neg (by decide)).trans m4) ((if_neg (by decide)).trans m5) hj ?_
    intro s₂ m₂ S₂ F₂ N₂ e
    exact k s₂ m₂ S₂ F₂ N₂ (fun y y1 y2 y3 => (e y y2 y3).trans (if_neg y1))
  cases hb : decide (nums.getD (j : Int).toNat 0 < 0) with
  | true =>
    simp only [if_true]
    refine Constant_str ?_
    rw [c_minus]
    refine storeX_L (s := { s with toks := _ }) (cl := []) F N (fun h₁ F₁ N₁ => ?_)
    dsimp only
    show wpAny (model prog w) (callerA.deeper (lawE L fa cd)) (execs (lawFor.drop 1) (lawE L fa cd)) Q E _
    refine Go.go ?_
    exact go [45] _ h₁ _ (.inr rfl) F₁ N₁
  | false =>
    simp only [Bool.false_eq_true, if_false]
    refine Constant_str ?_
    rw [c_none]
    refine storeX_L (s := { s with toks := _ }) (cl := []) F N (fun h₁ F₁ N₁ => ?_)
    dsimp only
    show wpAny (model prog w) (callerA.deeper (lawE L fa cd)) (execs (lawFor.drop 1) (lawE L fa cd)) Q E _
    refine Go.go ?_
    exact go [] _ h₁ _ (.inl rfl) F₁ N₁
end
end Mine
/- the law: its loop, whole -/
namespace Mine
section
variable {prog : Program} {w : World} {E : Value → Shared → Prop} {s : Shared} {h₀ : Heap} {L fa : Addr} {m mg mb : Str → Option Value} {cd : Value} {Q : Flow → Shared → Prop} {p : Program} {loose : List Str} {mean : ExcName → Option Value} {news : List (Addr × Obj)}
  {D ls le : Addr} {us vs ws : List Value} {nums ns es : List Int} {ep el ee : Nat} {sp : List Nat} {t3 : Tok}

theorem l3_loop (B : Below callerA h₀ [] h₀) (F : Fr h₀ L s.heap m) (N : News h₀ L s.heap news) (X : (Mine.hd03.heap_39 w.params).In h₀) (T : Top p loose mean mg mb h₀)
    (hD : (D, listOf (List.toArray us) ep) ∈ news) (hI : IntsAre us nums) (hne : nums ≠ []) (hlen : nums.length ≤ 16) (hR : (ls, listOf (List.toArray vs) el) ∈ news) (hIn : IntsAre vs ns) (hS : Sized ns) (h3 : ns.length ≤ 3)
    (hE : (le, listOf (List.toArray ws) ee) ∈ news) (hIe : IntsAre ws es) (hEn : IsEnd es) (hsp : sp.length ≤ 2)
    (m1 : m "numbers" = some (.ref D)) (m2 : m "separator" = some (.str (mkS sp) t3)) (m3 : m "sizes" = some (.ref ls)) (m4 : m "end" = some (.ref le))
    (k : ∀ s' m', Sim s s' → Fr h₀ L s'.heap m' → Go (Q (.ret (.bool true)) s')) :
    Go (wpAny (model prog w) (callerA.deeper (lawE L fa cd)) (execs (lawB.drop 5) (lawE L fa cd)) Q E s) := by
  have hsl : sizeLine = 16777216 := rfl
  have hlen' : us.length = nums.length := hI.length
  refine ⟨?_⟩
  refine wpAny_execs_cons ?_
  refine wpAny_For ?_ (by intro _; rfl)
  refine Call_ (nameX_B (cl := []) F X (topRead_of T) rfl boot_range (by decide) ?_)
  refine PyProof.Rows.callWith_type1 (args_cons ?_)
  refine Call_ (nameX_B (cl := []) F X (topRead_of T) rfl boot_len (by decide) ?_)
  refine PyProof.Rows.callWith_builtin1 (args_cons (nameX_L (cl := []) F m1 (args_nil ?_)))
  refine len_list (News.isList N hD) (by simp only [List.size_toArray]; omega) (args_nil ?_)
  rw [List.size_toArray, hlen']
  refine range_iter_1 (N := nums.length) (s := { s with toks := _ }) F N (by omega) (fun I h₁ tk₁ F₁ N₁ hI1 => ?_)
  refine range_for (cl := []) rfl (fun j m' news' => news' = news ∧ ∀ y, y ≠ ("k" : Str) → y ≠ ("sign" : Str) → y ≠ ("figures" : Str) → y ≠ ("chosen" : Str) → m' y = m y) F₁ N₁ hI1 ⟨rfl, fun _ _ _ _ _ => rfl⟩ ?_ ?_
  · rintro j s' m' _ t hj ⟨rfl, hy⟩ hn' hs' F' N'
    have e0 : (0 : Int) + (j : Nat) = (j : Int) := Int.zero_add _
    rw [e0] at F'
    have up : ∀ {y : Str}, y ≠ ("k" : Str) → y ≠ ("sign" : Str) → y ≠ ("figures" : Str) → y ≠ ("chosen" : Str) → (if y = Str.ofString "k" then some (Value.int (j : Int) t) else m' y) = m y := fun h1 h2 h3 h4 => (if_neg h1).trans (hy _ h1 h2 h3 h4)
    refine l3_turn (j := j) B F' N' X T (.tail _ hD) hI hne hlen (.tail _ hR) hIn hS h3 (.tail _ hE) hIe hEn hsp ((up (by decide) (by decide) (by decide) (by decide)).trans m1) ((up (by decide) (by decide) (by decide) (by decide)).trans m2) ((up (by decide) (by decide) (by decide) (by decide)).trans m3) ((up (by decide) (by decide) (by decide) (by decide)).trans m4) (if_pos rfl) hj ?_
    intro s₂ m₂ S₂ F₂ N₂ e
    refine ⟨?_⟩
    exact ⟨_, _, ⟨rfl, fun y y1 y2 y3 y4 => (e y y2 y3 y4).trans (up y1 y2 y3 y4)⟩, hn', hs'.trans S₂, F₂, N₂⟩
  · rintro s' m' _ ⟨rfl, hy⟩ hs' F' N'
    refine ⟨?_⟩
    dsimp only
    refine wpAny_execs_cons ?_
    refine wpAny_Return_some ?_
    refine Constant_bool ?_
    exact (k s' m' hs' F').go

theorem law_body {l : Addr} {vs : List Value} {ns : List Int} (B : Below callerA h₀ [] h₀) (F : Fr h₀ L s.heap m) (N : News h₀ L s.heap []) (X : (Mine.hd03.heap_39 w.params).In h₀) (T : Top p loose mean mg mb h₀)
    (hm : m "script" = some (.ref l)) (hl : h₀.IsList l vs.toArray) (hI : IntsAre vs ns) (hlen : ns.length ≤ 63)
    (k : ∀ s' m', Sim s s' → Fr h₀ L s'.heap m' → Q (.ret (.bool true)) s') :
    Go (wpAny (model prog w) (callerA.deeper (lawE L fa cd)) (execs lawB (lawE L fa cd)) Q E s) := by
  have hu : (callerA.deeper (lawE L fa cd)).units + 64 < cLine := Nat.le_of_ble_eq_true rfl
  refine l3_numbers F N hm hl hI hlen hu ?_
  intro h₁ tk₁ D us nums ep m₁ F₁ N₁ hI₁ hne hl₁ g1
  refine l3_sep (s := { s with heap := h₁, toks := tk₁ }) F₁ N₁ (.head _) hI₁ hne hl₁ g1 ?_
  intro h₂ tk₂ m₂ sp t2 F₂ N₂ hsp g2 g3
  refine l3_last (s := { s with heap := h₂, toks := tk₂ }) F₂ N₂ (.head _) hI₁ hne hl₁ ((g3 _ (by decide)).trans g1) ?_
  intro h₃ tk₃ m₃ last tl F₃ N₃ g4 g5
  refine l3_sizes (s := { s with heap := h₃, toks := tk₃ }) F₃ N₃ g4 ?_
  intro h₄ tk₄ m₄ ls zs sizes F₄ N₄ hI₄ hS hl₄ g6 g7
  refine l3_end (s := { s with heap := h₄, toks := tk₄ }) F₄ N₄ ((g7 _ (by decide)).trans g4) ?_
  intro h₅ tk₅ m₅ le zs' es news₅ F₅ N₅ sub₅ hD₅ hI₅ hE₅ g8 g9
  refine l3_loop (s := { s with heap := h₅, toks := tk₅ }) B F₅ N₅ X T (sub₅ _ (.tail _ (.head _))) hI₁ hne hl₁ (sub₅ _ (.head _)) hI₄ hS hl₄ hD₅ hI₅ hE₅ hsp ((g9 _ (by decide)).trans ((g7 _ (by decide)).trans ((g5 _ (by decide)).trans ((g3 _ (by decide)).trans g1)))) ((g9 _ (by decide)).trans ((g7 _ (by decide)).trans ((g5 _ (by decide)).trans g2))) ((g9 _ (by decide)).trans g6) g8 ?_
  intro s₆ m₆ S₆ F₆
  exact ⟨k s₆ m₆ S₆ F₆⟩
end
end Mine
theorem PySem.Challenge.cw_dm0204_03_holds : PySem.Challenge.rw_dm0204_03.Holds := by
  refine Mine.hd03 ?_
  k_fill
  intro w s₀ s₁ mg mb G Y fa o pm cd doc dV kV ho hd hcd hD hmg hg args vals as hpre hlay hrd hwl hlo
  have KX := kIn_of Y
  refine Ground.open G ?_
  intro T B D TE TW
  try (refine guard_noD D (by decide +kernel) ?_; clear D)
  clear hmg
  wrow_args hpre hlay hrd hwl hlo
  refine enter_call ?_
  w_top on
  have K0 := below_caller (Top.heap T)
  w_call any ho hd hcd hD T F
  clear hd
  k_drop
  rename IntsAre _ _ => hI
  rename News _ _ _ _ => N
  rename Fr _ _ _ _ => F
  rename Heap.IsList _ _ _ => hl
  refine Mine.Go.go ?_
  refine Mine.law_body K0 F N KX T rfl hl hI (by omega) ?_
  intro s' m' hs F'
  refine ⟨.inl ⟨_, _, [], rfl, fun _ => rfl, ReadsW.bool true, ?_, fun _ => ⟨List.nodup_nil, fun _ hm => (nomatch hm)⟩⟩, .of_keep F'.keep, hs.1, hs.2 (.of_eq hg)⟩
  wrow_post
