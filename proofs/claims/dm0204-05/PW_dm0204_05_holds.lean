import PyProof.Rows.All
import Wide.All
import OpenK.AllK
import Wide.FinOn
import PySem.Challenge.RW_dm0204_05
open PySem PySem.W PyProof.Rows PySem.Calls
set_option Elab.async false
set_option maxRecDepth 100000
set_option maxHeartbeats 8000000
/- small helpers over the library's frames, ledgers and iterators -/
namespace Mine

theorem fr_stays {h₀ h h' : Heap} {L : Addr} {m : Str → Option Value} (F : Fr h₀ L h m) (k : ∀ b o, h.get? b = some o → h'.get? b = some o) : Fr h₀ L h' m :=
  ⟨F.ns.keeps k, fun b o e => k b o (F.keep b o e), F.above⟩
theorem news_stays {h₀ h h' : Heap} {L : Addr} {news : List (Addr × Obj)} (N : News h₀ L h news) (k : ∀ b o, h.get? b = some o → h'.get? b = some o) : News h₀ L h' news :=
  fun p hp => ⟨k _ _ (N p hp).1, (N p hp).2.1, (N p hp).2.2⟩
theorem news_add {h₀ h h' : Heap} {L D : Addr} {m : Str → Option Value} {o : Obj} {news : List (Addr × Obj)} (F : Fr h₀ L h m) (N : News h₀ L h' news) (hD : h'.get? D = some o) (hnew : h.get? D = none) :
    News h₀ L h' ((D, o) :: news) := by
  intro p hp
  rcases List.mem_cons.mp hp with rfl | hp
  · refine ⟨hD, ?_, ?_⟩
    · rintro rfl
      obtain ⟨oL, _, _, hL, _⟩ := F.ns
      rw [hnew] at hL; cases hL
    · cases e : h₀.get? D with
      | none => rfl
      | some o' => have := F.keep _ _ e; rw [hnew] at this; cases this
  · exact N p hp
theorem stays_but {h h₂ h' : Heap} {wr : List Addr} (k : ∀ b o, h.get? b = some o → h₂.get? b = some o) (hf : ∀ b ∈ wr, h.get? b = none)
    (hk : ∀ b o, b ∉ wr → h₂.get? b = some o → h'.get? b = some o) : ∀ b o, h.get? b = some o → h'.get? b = some o :=
  fun b o e => hk b o (fun hb => by rw [hf b hb] at e; cases e) (k b o e)
theorem fresh_size {h : Heap} {b : Addr} (hb : h.objs.size ≤ b) : h.get? b = none := by
  cases e : h.get? b with
  | none => rfl
  | some o => exact absurd (Heap.lt_size e) (Nat.not_lt.mpr hb)

theorem fresh_wr {h : Heap} : ∀ b ∈ [h.objs.size], h.get? b = none := fun b hb => by
  rcases List.mem_cons.mp hb with rfl | hb
  · exact fresh_size (Nat.le_refl _)
  · cases hb

/-- n blanks -/
def blanks (n : Nat) : Str := ⟨(List.replicate n 32).toArray⟩
theorem blanks_length (n : Nat) : (blanks n).length = n := by simp [blanks, Str.length]
theorem foldl_app_rep (x : Nat) : ∀ (n : Nat) (acc : Array Nat), ((List.replicate n #[x]).foldl (· ++ ·) acc) = acc ++ (List.replicate n x).toArray
  | 0, acc => by simp
  | n + 1, acc => by
    rw [List.replicate_succ, List.foldl_cons, foldl_app_rep x n, List.replicate_succ]
    apply Array.toList_inj.mp; simp
theorem mul_blanks {n : Int} (h : 0 ≤ n) : Txt.mul ⟨#[32]⟩ n = blanks n.toNat := by
  unfold Txt.mul
  split
  · have : n.toNat = 0 := by omega
    rw [this]; rfl
  · split
    · rename_i h1 h2
      have : n = 1 := by simpa [Str.length] using h2
      subst this; rfl
    · rw [foldl_app_rep]; simp [blanks]

section
variable {prog : Program} {w : World} {A : Around} {E : Value → Shared → Prop} {s : Shared}
theorem mul_blank {n : Int} {t u : Tok} {Q : Value → Shared → Prop} (h0 : 0 ≤ n) (h1 : n ≤ 1048576) (h : ∀ t' k, Q (.str (blanks n.toNat) t') { s with toks := k }) :
    wpAny (model prog w) A (binaryOp .Mult (.str (Str.ofString " ") t) (.int n u)) Q E s := by
  rw [show Str.ofString " " = (⟨#[32]⟩ : Str) from by decide +kernel]
  refine SB.mul ⟨?_, ?_, ?_⟩ (fun t' k => ?_)
  · simp only [Bool.or_eq_false_iff, decide_eq_false_iff_not]; omega
  · intro h2 _
    have h3 : ((⟨#[32]⟩ : Str).length : Int) = 1 := rfl
    rw [h3]
    have : (2 ^ 63 - 1) / n ≥ 1 := by
      rw [ge_iff_le, Int.le_ediv_iff_mul_le (by omega)]; omega
    omega
  · intro _ _
    have h3 : (⟨#[32]⟩ : Str).length = 1 := rfl
    rw [h3]
    unfold Builtin.Str.tooLong
    have hsl : sizeLine = 16777216 := rfl
    simp only [decide_eq_false_iff_not]
    omega
  · rw [mul_blanks h0]; exact h t' k

/-- the iterator of range(N) -/
theorem range_iter {N : Nat} {t : Tok} {Q : Value → Shared → Prop} (hN : (N : Int) < 2 ^ 62)
    (k : ∀ I h' tk, (∀ b o, s.heap.get? b = some o → h'.get? b = some o) → s.heap.get? I = none → I < h'.objs.size → IsRangeIter h' I (0 + ((0 : Nat) : Int) * 1) ((N : Int) - ((0 : Nat) : Int)) 1 → Q (.ref I) { s with heap := h', toks := tk }) :
    wpAny (model prog w) A (call (.type "range") [.int (N : Int) t]) (fun xv s₁ => wpAny (model prog w) A (pyIter xv) Q E s₁) E s := by
  refine call_range_1 (wpAny_pyIter_range (IsRange.new _ _ _ _ _ _ _) (small_one (by omega) (by omega) (by omega) hN) ?_)
  have e : Builtin.Range.rangeSize 0 (N : Int) 1 = N := by rw [rangeSize_one]; split <;> omega
  rw [e]
  refine k _ _ _ (fun b o e => Heap.get?_push_of_some _ (Heap.get?_push_of_some _ e)) (fresh_size (by rw [Heap.size_push]; exact Nat.le_succ _)) (by simp only [Heap.size_push]; exact Nat.lt_succ_self _) ?_
  have := Heap.get?_push_size (s.heap.push { cls := .type "range", data := .fields #[.int 0 s.toks, .int (N : Int) t, .int 1 (s.toks + 1)] }) (o := { cls := .type "range_iterator", data := .fields #[rawInt 0, rawInt (N : Int), rawInt 1] }) rfl
  simpa using this

theorem ints_of_range : ∀ {n : Nat} {vs : List Value} {a : Int}, vs.length = n → (∀ j v, vs[j]? = some v → ∃ t, v = Value.int (a + (j : Nat) * 1) t) → IntsAre vs ((List.range n).map fun (i : Nat) => a + (i : Int))
  | 0, [], _, _, _ => .nil
  | n + 1, v :: vs, a, hl, h => by
    obtain ⟨t, rfl⟩ := h 0 v rfl
    have r := ints_of_range (n := n) (vs := vs) (a := a + 1) (by simpa using hl) (fun j u hu => by
      obtain ⟨t, e⟩ := h (j + 1) u (by simpa using hu)
      refine ⟨t, e.trans ?_⟩
      congr 1
      omega)
    rw [List.range_succ_eq_map, List.map_cons, List.map_map]
    have e0 : a + ((0 : Nat) : Int) * 1 = a + ((0 : Nat) : Int) := by omega
    rw [e0]
    refine .cons _ t ?_
    have e : ((fun (i : Nat) => a + (i : Int)) ∘ Nat.succ) = fun (i : Nat) => a + 1 + (i : Int) := by funext i; simp; omega
    rw [e]
    exact r
theorem ints_filter {p : Value → Bool} {q : Int → Bool} (h : ∀ n t, p (Value.int n t) = q n) : ∀ {vs : List Value} {ns : List Int}, IntsAre vs ns → IntsAre (vs.filter p) (ns.filter q)
  | _, _, .nil => .nil
  | _, _, .cons n t r => by
    rw [List.filter_cons, List.filter_cons, h]
    cases q n with
    | true => simp only [if_true]; exact .cons n t (ints_filter h r)
    | false => simp only [Bool.false_eq_true, if_false]; exact ints_filter h r
theorem paired_eq : ∀ {l ys : List Value}, Paired (fun v y => y = v) l ys → ys = l
  | _, _, .nil => rfl
  | _, _, .cons h r => by rw [h, paired_eq r]

theorem walks_lt {I : Addr} {fp wr : List Addr} {n : Nat} {P : Nat → Value → Prop} {St : Nat → Heap → Prop} (W : Walks prog w A I fp wr n P St) : Walks prog w A I fp wr n (fun i v => i < n ∧ P i v) St where
  sub := W.sub
  frame := W.frame
  item := fun i s Q E hi st hQ => W.item i s Q E hi st fun v h' tk hP => hQ v h' tk ⟨hi, hP⟩
  done := W.done
  self := W.self

/-- all that stood still stands -/
theorem kept_stays (h : Heap) : KeptH (fun h' => ∀ b o, h.get? b = some o → h'.get? b = some o) := fun _ ob a b o e => Heap.get?_push_of_some ob (a b o e)
theorem slice_ns_stays {value slice : Expr} {x : Str} {t : Tok} {j : Int} {uj : Tok} {Q : Value → Shared → Prop}
    (h : ∀ h' t' k, (∀ b o, s.heap.get? b = some o → h'.get? b = some o) → Q (.str (Txt.slice x none (some j)) t') { s with heap := h', toks := k }) (hsz : x.length ≤ sizeLine)
    (hs : subscripted slice false (.str x t) (.ref s.heap.objs.size) = operate [.ref s.heap.objs.size, .str x t] (getItem (.str x t) (.ref s.heap.objs.size)) := by with_unfolding_all rfl)
    (ht : ∀ r, letTemporaryGo value (.str x t) r = pure () := by intro _; with_unfolding_all rfl) :
    wpAny (model prog w) A (subscriptTail value slice (.str x t) (.ref s.heap.objs.size)) Q E { s with heap := s.heap.push { cls := .type "slice", data := .fields #[.none, .int j uj, .none] } } :=
  tail_of_ItemOn (SBH.sliceItem_ns (kept_stays s.heap) (fun _ _ e => e) h hsz) hs ht
theorem slice_sn_stays {value slice : Expr} {x : Str} {t : Tok} {i : Int} {ui : Tok} {Q : Value → Shared → Prop}
    (h : ∀ h' t' k, (∀ b o, s.heap.get? b = some o → h'.get? b = some o) → Q (.str (Txt.slice x (some i) none) t') { s with heap := h', toks := k }) (hsz : x.length ≤ sizeLine)
    (hs : subscripted slice false (.str x t) (.ref s.heap.objs.size) = operate [.ref s.heap.objs.size, .str x t] (getItem (.str x t) (.ref s.heap.objs.size)) := by with_unfolding_all rfl)
    (ht : ∀ r, letTemporaryGo value (.str x t) r = pure () := by intro _; with_unfolding_all rfl) :
    wpAny (model prog w) A (subscriptTail value slice (.str x t) (.ref s.heap.objs.size)) Q E { s with heap := s.heap.push { cls := .type "slice", data := .fields #[.int i ui, .none, .none] } } :=
  tail_of_ItemOn (SBH.sliceItem_sn (kept_stays s.heap) (fun _ _ e => e) h hsz) hs ht
theorem slice_ss_stays {value slice : Expr} {x : Str} {t : Tok} {i j : Int} {ui uj : Tok} {Q : Value → Shared → Prop}
    (h : ∀ h' t' k, (∀ b o, s.heap.get? b = some o → h'.get? b = some o) → Q (.str (Txt.slice x (some i) (some j)) t') { s with heap := h', toks := k }) (hsz : x.length ≤ sizeLine)
    (hs : subscripted slice false (.str x t) (.ref s.heap.objs.size) = operate [.ref s.heap.objs.size, .str x t] (getItem (.str x t) (.ref s.heap.objs.size)) := by with_unfolding_all rfl)
    (ht : ∀ r, letTemporaryGo value (.str x t) r = pure () := by intro _; with_unfolding_all rfl) :
    wpAny (model prog w) A (subscriptTail value slice (.str x t) (.ref s.heap.objs.size)) Q E { s with heap := s.heap.push { cls := .type "slice", data := .fields #[.int i ui, .int j uj, .none] } } :=
  tail_of_ItemOn (SBH.sliceItem_ss (kept_stays s.heap) (fun _ _ e => e) h hsz) hs ht
theorem in_one {P : Addr → Prop} {I : Addr} (h : P I) : ∀ b ∈ [I], P b := fun b hb => by
  rcases List.mem_cons.mp hb with rfl | hb
  · exact h
  · cases hb
end
end Mine
/- segments of a generator function: if, for -/
namespace Mine
section
variable {M : Model} {A : Around} {R : GenEnd} {Y : Protocol} {n : Nat} {s₀ : Shared} {c : Code} {fs : List Frame} {s : Shared} {env : Env}
  {K : Flow → Sem Fin} {H : Value → Sem Fin} {gd : Bool → Bool} {lv : List Value → List Value}

theorem seg_If {test : Expr} {body orelse : List Stmt} {pos : Pos}
    (h : wpAny M (A.over c fs) (isTrue test env (eval test env)) (fun b s' => if b = true then Seg M A R Y n s₀ c ((execs body env).wrap K H gd lv) fs s' else Seg M A R Y n s₀ c ((execs orelse env).wrap K H gd lv) fs s')
      (fun x s' => Seg M A R Y n s₀ c (H x) fs s') s) :
    Seg M A R Y n s₀ c ((exec (.If test body orelse pos) env).wrap K H gd lv) fs s := by
  rw [exec_If]
  refine seg_bind_wrap (wpAny_standAt (seg_bind_wrap (wpAny_mono h (fun b s' hb => ?_) fun _ _ z => z)))
  cases b with
  | true => simpa using hb
  | false => simpa using hb

theorem seg_For {target iter : Expr} {body orelse : List Stmt} {pos : Pos} (hset : ∀ x, foldedSetIterable iter env x = pure x)
    (h : wpAny M (A.over c fs) (eval iter env) (fun x s₁ => wpAny M (A.over c fs) (pyIter x) (fun it s₂ => ∀ p, Seg M A R Y n s₀ (.forLoop target it body orelse env) (M.den (.forLoop target it body orelse env))
      (.ret (fun r => ((match r with | .ok f => (.pure f : Sem Flow) | .error e => .raise e).onRaise fun (x : Value) => do
        if (← field x 1) == Value.none then unsupported "frame.own-activation:exception-without-traceback"
        setFlight x env.frame).wrap K H gd lv) none (gd false) (lv []) c p [] :: fs) s₂)
      (fun x s' => Seg M A R Y n s₀ c (H x) fs s') s₁) (fun x s' => Seg M A R Y n s₀ c (H x) fs s') s) :
    Seg M A R Y n s₀ c ((exec (.For target iter body orelse pos) env).wrap K H gd lv) fs s := by
  rw [exec_For]
  refine seg_bind_wrap (wpAny_standAt (seg_bind_wrap (wpAny_mono h (fun x s₁ h₁ => ?_) fun _ _ z => z)))
  refine seg_bind_wrap (wpAny_of_eq (hset x) ?_)
  refine seg_bind_wrap (wpAny_standAt (seg_bind_wrap (wpAny_holding (wpAny_mono h₁ (fun it s₂ h₂ => ?_) fun _ _ z => z))))
  exact seg_call h₂
end

section
variable {prog : Program} {w : World} {A : Around} {R : GenEnd} {Y : Protocol} {n : Nat} {s₀ : Shared} {fs : List Frame} {s : Shared} {env : Env}

/-- a turn of a for loop whose body may yield -/
theorem seg_forLoop {x : Str} {px : Pos} {it : Value} {body : List Stmt}
    (h : wpAny (model prog w) (A.over (.forLoop (.Name x px) it body [] env) fs) (pyNext it) (fun r s' => match r with
        | none => Seg (model prog w) A R Y n s₀ (.block [] env) ((model prog w).den (.block [] env)) fs s'
        | some v => wpAny (model prog w) (A.over (.forLoop (.Name x px) it body [] env) fs) (storeName env x v) (fun _ s₂ =>
          Seg (model prog w) A R Y n s₀ (.forLoop (.Name x px) it body [] env) ((execs body env).wrap (fun f => match f with
            | .next | .cont => .pure (.again (.forLoop (.Name x px) it body [] env))
            | .brk => .pure (.done .next)
            | .ret v => .pure (.done (.ret v))) (fun e => (do noteFrame e env; theTreesLotGoes e : Sem Unit).wrap (fun _ => .raise e) .raise id id) id id) fs s₂)
          (fun _ _ => False) s') (fun _ _ => False) s) :
    Seg (model prog w) A R Y n s₀ (.forLoop (.Name x px) it body [] env) ((model prog w).den (.forLoop (.Name x px) it body [] env)) fs s := by
  show Seg _ A R Y n s₀ _ ((forTurn (.Name x px) it body [] env).onRaise (fun x => do noteFrame x env; theTreesLotGoes x)) fs s
  unfold forTurn
  rw [Sem.onRaise_eq_wrap]
  refine seg_bind_wrap (wpAny_standAt ?_)
  refine seg_bind_wrap (wpAny_onRaise (wpAny_mono h (fun r s' hr => ?_) fun _ _ z => z.elim))
  cases r with
  | none => exact seg_again rfl hr
  | some v =>
    refine seg_bind_wrap (wpAny_of_eq (rfl : letOwnedTupleGo (.Name x px) it v = pure ()) ?_)
    refine seg_bind_wrap (wpAny_assign_Name (wpAny_mono hr (fun _ s₂ h₂ => ?_) fun _ _ z => z.elim))
    rw [Sem.bind_eq_wrap', Sem.wrap_wrap]
    rw [Sem.wrap_congr (execs body env) _ _ (K' := fun f => match f with
            | .next | .cont => .pure (.again (.forLoop (.Name x px) it body [] env))
            | .brk => .pure (.done .next)
            | .ret v => .pure (.done (.ret v))) (H' := (fun e => (do noteFrame e env; theTreesLotGoes e : Sem Unit).wrap (fun _ => .raise e) .raise id id))
        (fun f => by cases f <;> rfl)
        (fun e => by first | exact Sem.bind_eq_wrap _ _ | (show (do noteFrame e env; theTreesLotGoes e : Sem Unit).bind (fun _ => .raise e) = _; rw [Sem.bind_eq_wrap]))]
    exact h₂
end
end Mine
namespace Mine
set_option maxRecDepth 100000 in
set_option maxHeartbeats 8000000 in
open_top hd05 for PySem.Challenge.rw_dm0204_05
end Mine
/- the generator _grouping_intervals -/
namespace Mine

def fnBody (p : Program) (i : Nat) : List Stmt := match p.main.body[i]? with
  | some (.FunctionDef _ _ b _ _ _ _ _ _ _) => b
  | _ => []
def fnScope (p : Program) (i : Nat) : Scope := match p.main.body[i]? with
  | some (.FunctionDef _ _ _ _ _ _ s _ _ _) => s
  | _ => default
def gB : List Stmt := fnBody PySem.Challenge.pw_dm0204_05 2
def gS : Scope := fnScope PySem.Challenge.pw_dm0204_05 2
def forB : List Stmt := match gB.drop 1 with | .For _ _ b _ _ :: _ => b | _ => []
def forP : Pos := match gB.drop 1 with | .For (.Name _ p) _ _ _ _ :: _ => p | _ => default
def whB : List Stmt := match forB.drop 1 with | .If _ (_ :: .While _ b _ _ :: _) _ _ :: _ => b | _ => []
def whT : Expr := match forB.drop 1 with | .If _ (_ :: .While t _ _ _ :: _) _ _ :: _ => t | _ => default
abbrev gE (C f : Addr) (cd : Value) : Env := envOf "_grouping_intervals" gS C f cd

/-- what the generator tells: the j-th interval -/
def tell : List Int → Option Int → Nat → Option Int
  | [], _, _ => none
  | x :: r, last, j => if x = 127 then none else if x = 0 then last else match j with
    | 0 => some x
    | j + 1 => tell r (some x) j

/-- an iterator of a list -/
def LI (o : Obj) : Prop := o.cls = .type "list_iterator" ∧ ∃ fs, o.data = .fields fs
/-- what a resume leaves: nothing has changed but C and iterators of lists that are younger than C -/
def Since (C : Addr) (s₀ s : Shared) : Prop := ∃ h' tk, s = { s₀ with heap := h', toks := tk } ∧ ∀ b o, b ≠ C → (b < C ∨ ¬ LI o) → s₀.heap.get? b = some o → h'.get? b = some o
theorem Since.refl (C : Addr) (s : Shared) : Since C s s := ⟨s.heap, s.toks, rfl, fun _ _ _ _ e => e⟩
theorem Since.step {C : Addr} {s₀ s : Shared} (x : Since C s₀ s) {h' : Heap} {tk : Nat} (hk : ∀ b o, b ≠ C → (b < C ∨ ¬ LI o) → s.heap.get? b = some o → h'.get? b = some o) : Since C s₀ { s with heap := h', toks := tk } := by
  obtain ⟨h₁, tk₁, rfl, hk₁⟩ := x
  exact ⟨h', tk, rfl, fun b o hC hI e => hk b o hC hI (hk₁ b o hC hI e)⟩
/-- what must be kept between two resumes -/
def Held (C lg : Addr) (h h' : Heap) : Prop := ∀ b o, (b = C ∨ b = lg ∨ b = mainGlobals ∨ LI o) → h.get? b = some o → h'.get? b = some o

def gProto (N : Nat) (gr : List Int) (C lg : Addr) : Protocol := fun n s₀ v s kap =>
  (∃ x t, tell gr none (N - 1 - n) = some x ∧ v = .int x t) ∧ Since C s₀ s ∧
    (0 < n → ∀ s'' : Shared, Held C lg s.heap s''.heap → kap (.send .none) s'')
def gEnd (N : Nat) (gr : List Int) (C : Addr) : GenEnd := fun n s₀ r s₁ => r = .ok (.ret .none) ∧ (tell gr none (N - n) = none ∧ Since C s₀ s₁)

section
variable {prog : Program} {w : World} {A : Around}

/-- while True: yield last_interval -/
theorem seg_forever {N : Nat} {gr : List Int} {C lg f : Addr} {cd : Value} {fs : List Frame} {x : Int} {t : Tok} (hfs : splitAtGen fs = none) (hfg : fs.any Frame.guarded = false) :
    ∀ (n j : Nat) (s₀ s : Shared) (m : Str → Option Value), 0 < n → n + j = N → (∀ d, tell gr none (j + d) = some x) → s.heap.Ns C m → m "last_interval" = some (.int x t) → Since C s₀ s →
      Seg (model prog w) A (gEnd N gr C) (gProto N gr C lg) n s₀ (.whileLoop whT whB [] (gE C f cd)) ((model prog w).den (.whileLoop whT whB [] (gE C f cd))) fs s := by
  intro n
  induction n with
  | zero => intro j s₀ s m hn; exact absurd hn (Nat.lt_irrefl _)
  | succ n ih =>
    intro j s₀ s m _ hj hx hn hm hs
    refine seg_whileLoop ?_
    refine isTrue_plain (Constant_bool (wpAny_truthy_bool ?_))
    simp only [if_true]
    refine seg_execs_cons ?_
    refine seg_Expr_Yield hfs rfl hfg ?_
    refine wpAny_Name (wpAny_loadName_local rfl rfl hn hm ?_)
    intro kap hk
    refine ⟨⟨x, t, ?_, rfl⟩, hs, fun hn0 s'' hal => hk .none s'' ?_⟩
    · have := hx 0
      rw [show N - 1 - n = j + 0 by omega]; exact this
    · refine seg_execs_nil ?_
      refine seg_again rfl (ih (j + 1) s'' s'' m hn0 (by omega) (fun d => by rw [Nat.add_assoc]; exact hx _) (hn.at' fun o e => hal C o (.inl rfl) e) hm (Since.refl _ _))

theorem get_drop {α : Type} {l : List α} {i : Nat} {x : α} {r : List α} (h : l.drop i = x :: r) : l[i]? = some x ∧ l.drop (i + 1) = r ∧ i < l.length := by
  have hi : i < l.length := by
    refine Nat.lt_of_not_le fun hc => ?_
    rw [List.drop_of_length_le hc] at h; cases h
  rw [List.drop_eq_getElem_cons hi] at h
  injection h with h1 h2
  exact ⟨by rw [List.getElem?_eq_getElem hi, h1], h2, hi⟩
theorem ints_at {vs : List Value} {ns : List Int} {i : Nat} {v : Value} (h : IntsAre vs ns) (hv : vs[i]? = some v) : ∃ n t, v = .int n t ∧ ns[i]? = some n := by
  induction h generalizing i with
  | nil => simp at hv
  | cons n t r ih =>
    cases i with
    | zero => simp at hv; exact ⟨n, t, hv.symm, rfl⟩
    | succ i => simpa using ih (by simpa using hv)

theorem listIter_cls {h : Heap} {I lg : Addr} {i : Nat} {o : Obj} (it : h.IsListIter I lg i) (e : h.get? I = some o) : LI o := by
  obtain ⟨o', ho, hc, hd⟩ := it
  rw [ho] at e; cases e; exact ⟨hc, _, hd⟩

/-- for interval in grouping: .. -/
theorem seg_go {N : Nat} {gr : List Int} {vs : List Value} {C I lg f : Addr} {cd : Value} {kf : Result → Sem Fin} {lf : List Value} {cf : Code} {pf : Pos} {mg : Str → Option Value} {tc : Tok} (hA : A.handled = none)
    (hIC' : C < I) (hIC : I ≠ C) (hlC : lg ≠ C) (hlI : lg ≠ I) (hgC : mainGlobals ≠ C) (hgI : mainGlobals ≠ I) (hgr : IntsAre vs gr) (hcm : mg "CHAR_MAX" = some (.int 127 tc))
    (hend : ∀ n s₀ s' fl, (fl = .next ∨ fl = .ret .none) → tell gr none (N - n) = none → Since C s₀ s' → Seg (model prog w) A (gEnd N gr C) (gProto N gr C lg) n s₀ cf (kf (.ok fl)) [] s') :
    ∀ (rest : List Int) (i j n : Nat) (last : Option Int) (s₀ s : Shared) (m : Str → Option Value) (tl : Tok), gr.drop i = rest → i ≤ gr.length → 0 < n → n + j = N → (∀ d, tell gr none (j + d) = tell rest last d) → (last = none → rest.head? ≠ some 0) →
      s.heap.IsListIter I lg i → s.heap.IsList lg vs.toArray → s.heap.Ns C m → m "last_interval" = some (match last with | none => .none | some x => .int x tl) → s.heap.Ns mainGlobals mg → Since C s₀ s →
      Seg (model prog w) A (gEnd N gr C) (gProto N gr C lg) n s₀ (.forLoop (.Name "interval" forP) (.ref I) forB [] (gE C f cd)) ((model prog w).den (.forLoop (.Name "interval" forP) (.ref I) forB [] (gE C f cd)))
        [.ret kf none false lf cf pf []] s := by
  have hvl : vs.length = gr.length := hgr.length
  have hh : (A.over (.forLoop (.Name "interval" forP) (.ref I) forB [] (gE C f cd)) [.ret kf none false lf cf pf []]).handled = none := hA
  intro rest
  induction rest with
  | nil =>
    intro i j n last s₀ s m tl hd hle hn hj ht _ it hl hns hm hg hs
    have W := Walks.list (prog := prog) (w := w) hh I lg hlI vs.toArray
    have hi : gr.length ≤ i := by
      refine Nat.le_of_not_lt fun hc => ?_
      rw [List.drop_eq_getElem_cons hc] at hd; cases hd
    have ei : i = vs.toArray.size := by simp; omega
    subst ei
    refine seg_forLoop (W.done s _ _ ⟨it, hl⟩ fun h' tk k' => ?_)
    refine seg_leaf (.ok .next) (hend n s₀ _ .next (.inl rfl) ?_ (hs.step fun b o _ hI e => k' b o (fun hb => ?_) e))
    · have := ht 0
      rw [show N - n = j + 0 by omega, this]; rfl
    · rw [List.mem_singleton] at hb; subst hb; rcases hI with hI | hI; exact absurd hIC' (Nat.lt_asymm hI); exact hI (listIter_cls it e)
  | cons x rest ih =>
    intro i j n last s₀ s m tl hd hle hn hj ht h0 it hl hns hm hg hs
    have W := Walks.list (prog := prog) (w := w) hh I lg hlI vs.toArray
    obtain ⟨hx, hd', hi⟩ := get_drop hd
    refine seg_forLoop (W.item i s _ _ (by simpa [hvl] using hi) ⟨it, hl⟩ fun v h₁ tk₁ hv st₁ k₁ => ?_)
    obtain ⟨x', t, rfl, hx'⟩ := ints_at hgr (i := i) (v := v) (by simpa using hv)
    obtain rfl : x = x' := by rw [hx] at hx'; exact Option.some.inj hx'
    refine wpAny_storeName_local rfl (hns.at' fun o e => k₁ C o (fun hb => hIC (List.mem_singleton.mp hb).symm) e) (fun h₂ hn₂ sb₂ => ?_)
    have up₂ : ∀ b o, b ≠ C → b ≠ I → s.heap.get? b = some o → h₂.get? b = some o := fun b o hC hI e => sb₂.extBut b o hC (k₁ b o (fun hb => hI (List.mem_singleton.mp hb)) e)
    have hg₂ : h₂.Ns mainGlobals mg := hg.at' fun o e => up₂ _ o hgC hgI e
    have hl₂ : h₂.IsList lg vs.toArray := hl.at fun o e => up₂ _ o hlC hlI e
    have it₂ : h₂.IsListIter I lg (i + 1) := st₁.1.at fun o e => sb₂.extBut I o hIC e
    have hs₂ : ∀ tk, Since C s₀ { s with heap := h₂, toks := tk } := fun tk => hs.step fun b o hC hI e => up₂ b o hC (fun hb => by subst hb; rcases hI with hI | hI; exact absurd hIC' (Nat.lt_asymm hI); exact hI (listIter_cls it e)) e
    refine seg_execs_cons (seg_If ?_)
    refine wpAny_isTrue_Compare1 (wpAny_Name (wpAny_loadName_local rfl rfl hn₂ (if_pos rfl) ?_))
    refine Name_function_global rfl rfl (loadGlobal_global (mg := mg) hg₂ hcm ?_) (by decide)
    refine PyProof.Rows.eq_int (wpAny_truthy_bool ?_)
    by_cases h127 : x = 127
    · rw [if_pos (by simpa using h127)]
      refine seg_execs_cons (seg_wrap (wpAny_Return_none ?_))
      refine seg_leaf (.ok (.ret .none)) (hend n s₀ _ _ (.inr rfl) ?_ (hs₂ _))
      have := ht 0
      rw [show N - n = j + 0 by omega, this]
      simp [tell, h127]
    rw [if_neg (by simpa using h127)]
    refine seg_execs_nil ?_
    refine seg_execs_cons (seg_If ?_)
    refine wpAny_isTrue_Compare1 (wpAny_Name (wpAny_loadName_local rfl rfl hn₂ (if_pos rfl) (wpAny_Constant_int (PyProof.Rows.eq_int (wpAny_truthy_bool ?_)))))
    by_cases hx0 : x = 0
    · rw [if_pos (by simpa using hx0)]
      cases last with
      | none => exact absurd (by rw [hx0]; rfl) (h0 rfl)
      | some y =>
        refine seg_execs_cons (seg_If ?_)
        refine wpAny_isTrue_Compare1 (wpAny_Name (wpAny_loadName_local rfl rfl hn₂ ((if_neg (by decide)).trans hm) (wpAny_Constant_none (is_int_none (wpAny_truthy_bool ?_)))))
        rw [if_neg (by decide)]
        refine seg_execs_nil ?_
        refine seg_execs_cons (seg_While fun p => ?_)
        refine seg_forever rfl rfl n j s₀ _ _ hn hj (fun d => ?_) hn₂ ((if_neg (by decide)).trans hm) (hs₂ _)
        rw [ht d]; simp [tell, hx0]
    · rw [if_neg (by simpa using hx0)]
      refine seg_execs_nil ?_
      obtain ⟨n', rfl⟩ : ∃ n', n = n' + 1 := ⟨n - 1, by omega⟩
      refine seg_execs_cons (seg_Expr_Yield rfl rfl rfl (wpAny_Name (wpAny_loadName_local rfl rfl hn₂ (if_pos rfl) ?_)))
      intro kap hk
      refine ⟨⟨x, t, ?_, rfl⟩, hs₂ _, fun hn0 s'' hal => hk .none s'' ?_⟩
      · have := ht 0
        rw [show N - 1 - n' = j + 0 by omega, this]
        simp [tell, h127, hx0]
      have hn₃ := hn₂.at' fun o e => hal C o (.inl rfl) e
      have hg₃ := hg₂.at' fun o e => hal mainGlobals o (.inr (.inr (.inl rfl))) e
      have hl₃ := hl₂.at fun o e => hal lg o (.inr (.inl rfl)) e
      have it₃ := it₂.at fun o e => hal I o (.inr (.inr (.inr (listIter_cls it₂ e)))) e
      refine seg_execs_cons (seg_wrap (wpAny_Assign_Name (wpAny_Name (wpAny_loadName_local rfl rfl hn₃ (if_pos rfl) (wpAny_storeName_local rfl hn₃ (fun h₄ hn₄ sb₄ => ?_))))))
      refine seg_execs_nil ?_
      refine seg_again rfl (ih (i + 1) (j + 1) n' (some x) s'' _ _ t hd' hi hn0 (by omega) (fun d => ?_) (fun e => nomatch e) (it₃.at fun o e => sb₄.extBut I o hIC e) (hl₃.at fun o e => sb₄.extBut lg o hlC e) hn₄ (if_pos rfl) (hg₃.at' fun o e => sb₄.extBut _ o hgC e) ?_)
      · rw [Nat.add_assoc, Nat.add_comm 1 d, ht (d + 1)]
        simp [tell, h127, hx0]
      · exact (Since.refl C s'').step fun b o hC _ e => sb₄.extBut b o hC e

/-- the generator's body from its start -/
theorem seg_start {N : Nat} {gr : List Int} {vs : List Value} {C lg f : Addr} {cd : Value} {mg m : Str → Option Value} {tc : Tok} {s : Shared} (hA : A.handled = none) (hN : 0 < N)
    (hlC : lg ≠ C) (hgC : mainGlobals ≠ C) (hgr : IntsAre vs gr) (hcm : mg "CHAR_MAX" = some (.int 127 tc)) (h0 : gr.head? ≠ some 0)
    (hns : s.heap.Ns C m) (hm : m "grouping" = some (.ref lg)) (hl : s.heap.IsList lg vs.toArray) (hg : s.heap.Ns mainGlobals mg) :
    Seg (model prog w) A (gEnd N gr C) (gProto N gr C lg) N s (.func gB (gE C f cd)) ((model prog w).den (.func gB (gE C f cd))) [] s := by
  refine seg_func ?_
  refine seg_execs_cons (seg_wrap (wpAny_Assign_Name (wpAny_Constant_none (wpAny_storeName_local rfl hns (fun h₁ hn₁ sb₁ => ?_)))))
  have hl₁ : h₁.IsList lg vs.toArray := hl.at fun o e => sb₁.extBut lg o hlC e
  have hg₁ : h₁.Ns mainGlobals mg := hg.at' fun o e => sb₁.extBut _ o hgC e
  refine seg_execs_cons (seg_For (fun _ => rfl) (wpAny_Name (wpAny_loadName_local rfl rfl hn₁ ((if_neg (by decide)).trans hm) (wpAny_pyIter_list hl₁ ?_))))
  intro p
  have hC₁ : C < h₁.objs.size := by obtain ⟨o, _, _, e, _⟩ := hn₁; exact Heap.lt_size e
  have hlg₁ : lg < h₁.objs.size := by obtain ⟨o, e, _⟩ := hl₁; exact Heap.lt_size e
  have hmg₁ : mainGlobals < h₁.objs.size := by obtain ⟨o, _, _, e, _⟩ := hg₁; exact Heap.lt_size e
  refine seg_go (mg := mg) (tc := tc) hA hC₁ (Nat.ne_of_gt hC₁) hlC (Nat.ne_of_lt hlg₁) hgC (Nat.ne_of_lt hmg₁) hgr hcm ?_ gr 0 0 N none s _ _ 0 rfl (Nat.zero_le _) hN rfl (fun d => by rw [Nat.zero_add]) (fun _ => h0) ?_ (hl₁.push _) (hn₁.push _) (if_pos rfl) (hg₁.push _) ?_
  · rintro n s₀ s' fl (rfl | rfl) ht hs
    · exact seg_end (.ok (.ret .none)) ⟨rfl, ht, hs⟩
    · exact seg_end (.ok (.ret .none)) ⟨rfl, ht, hs⟩
  · exact ⟨_, Heap.get?_push_size _ rfl, rfl, rfl⟩
  · exact (Since.refl C s).step fun b o hC _ e => Heap.get?_push_of_some _ (sb₁.extBut b o hC e)
end
end Mine
/- a generator that is asked; a range iterator that is asked -/
namespace Mine

/-- a generator that has been asked j times -/
def GAt (prog : Program) (w : World) (A : Around) (N : Nat) (gr : List Int) (a : Addr) (g : Nat) (C lg : Addr) (j : Nat) (s : Shared) : Prop :=
  s.heap.IsGen a g ∧ s.heap.NoLimit ∧ ∃ gs, s.gens[g]? = some gs ∧ ∀ s'' : Shared, Held C lg s.heap s''.heap → gs.Goes (model prog w) A.in1 (gEnd N gr C) (gProto N gr C lg) (N - j) (.send .none) s''

/-- what asking it leaves -/
def Moves (g : Nat) (C : Addr) (s s' : Shared) : Prop :=
  (∀ b o, b ≠ C → (b < C ∨ ¬ LI o) → s.heap.get? b = some o → s'.heap.get? b = some o) ∧ s'.drawn = s.drawn ∧ s'.os = s.os ∧ GenOnlyQ g s.gens s'.gens

theorem Held.of {C lg : Addr} {h h' : Heap} {wr : List Addr} (hk : ∀ b o, b ∉ wr → h.get? b = some o → h'.get? b = some o)
    (hw : ∀ b ∈ wr, b ≠ C ∧ b ≠ lg ∧ b ≠ mainGlobals ∧ ∀ o, h.get? b = some o → ¬ LI o) : Held C lg h h' := by
  intro b o hb e
  refine hk b o (fun hm => ?_) e
  obtain ⟨h1, h2, h3, h4⟩ := hw b hm
  rcases hb with hb | hb | hb | hb
  · exact h1 hb
  · exact h2 hb
  · exact h3 hb
  · exact h4 o e hb
theorem Held.trans {C lg : Addr} {h h' h'' : Heap} (x : Held C lg h h') (y : Held C lg h' h'') : Held C lg h h'' := fun b o hb e => y b o hb (x b o hb e)

theorem GAt.keeps {prog : Program} {w : World} {A : Around} {N : Nat} {gr : List Int} {a : Addr} {g : Nat} {C lg : Addr} {j : Nat} {s : Shared} {wr : List Addr} {h' : Heap} {tk : Nat} (G : GAt prog w A N gr a g C lg j s)
    (hk : ∀ b o, b ∉ wr → s.heap.get? b = some o → h'.get? b = some o) (hw : ∀ b ∈ wr, b ≠ a ∧ b ≠ cStatics ∧ b ≠ C ∧ b ≠ lg ∧ b ≠ mainGlobals ∧ ∀ o, s.heap.get? b = some o → ¬ LI o) :
    GAt prog w A N gr a g C lg j { s with heap := h', toks := tk } := by
  obtain ⟨⟨o, nm, qn, ho, r⟩, ⟨mc, hns, hnn⟩, gs, hgs, hgo⟩ := G
  refine ⟨⟨o, nm, qn, hk _ _ (fun hm => (hw _ hm).1 rfl) ho, r⟩, ⟨mc, hns.at' fun o e => hk _ o (fun hm => (hw _ hm).2.1 rfl) e, hnn⟩, gs, hgs, fun s'' hal => hgo s'' ?_⟩
  exact (Held.of hk fun b hb => (hw b hb).2.2).trans hal

theorem not_LI_data {o : Obj} {es ep} (h : o.data = .dict es ep) : ¬ LI o := fun x => by obtain ⟨_, fs, e⟩ := x; rw [h] at e; cases e
theorem not_LI_cls {o : Obj} {c : Value} (h : o.cls = c) (hc : c ≠ .type "list_iterator") : ¬ LI o := fun x => hc (h ▸ x.1)

section
variable {prog : Program} {w : World} {A : Around} {E : Value → Shared → Prop} {s : Shared}

/-- the generator is asked -/
theorem gen_wake {N : Nat} {gr : List Int} {a : Addr} {g : Nat} {C lg : Addr} {j : Nat} {Q : Option Value → Shared → Prop} (hh : A.handled = none) (hroom : A.depth < recursionLimit)
    (haC : a ≠ C) (hcC : cStatics ≠ C) (G : GAt prog w A N gr a g C lg j s) (hj : j < N)
    (hI : ∀ x t s', tell gr none j = some x → (j + 1 < N → GAt prog w A N gr a g C lg (j + 1) s') → Moves g C s s' → Q (some (.int x t)) s')
    (hE : ∀ e s', tell gr none j = none → Moves g C s s' → (∃ o, s'.heap.get? e = some o ∧ o.cls = .type "StopIteration") → E (.ref e) s') :
    wpAny (model prog w) A (callSpecial? (.ref a) (Str.ofString "__next__")) Q E s := by
  obtain ⟨hg, hl, gs, hgs, hgo⟩ := G
  obtain ⟨m, hm⟩ : ∃ m, N - j = m + 1 := ⟨N - j - 1, by omega⟩
  rw [hm] at hgo
  refine wpAny_callSpecial?_slot (name := Str.ofString "__next__") hg.typeIs slot_gen_next (wpAny_call_entry slot_gen_next hg.typeIs entry_gen_next ?_ (args_gen_next _))
  show wpAny _ A.in1 (Builtin.Generator.genWake (.ref a) (.send .none)) _ _ s
  unfold Builtin.Generator.genWake
  refine wpAny_bind (wpAny_holding (wpAny_genNumber hg (wpAny_bind (wpAny_genState hgs ?_))))
  have hgo' := hgo (s.setGen g .running) fun _ _ _ e => e
  cases gs with
  | running => exact hgo'.elim
  | finished => exact hgo'.elim
  | _ =>
    refine wpAny_bind (wpAny_roomToWake hl hroom ?_)
    show wpAny _ A.in1 (.resume g (.send .none) [] _) _ _ s
    refine wpAny_resumeQ hgs hgo' (fun x s₁ hx => ?_) (fun v s₁ gs' hb hv => ?_)
    · obtain ⟨rfl, ht, h₁, tk₁, rfl, hk₁⟩ := hx
      show wpAny _ A.in1 (newExc (.type "StopIteration") [] >>= _) _ _ _
      refine wpAny_bind ?_
      simp only [newExc, newTuple]
      refine wpAny_bind (wpAny_newObj_type ?_ (by size_fits))
      refine wpAny_bind (m := firstArgMember _ _) (wpAny_of_eq (a := Value.none) (by first | rfl | (simp only [firstArgMember]; rfl)) ?_)
      refine wpAny_newObj_type ?_ (by size_fits)
      simp only [raiseNew]
      refine wpAny_bind (wpAny_bind (wpAny_handled ?_))
      first | rw [show A.in1.handled = none from hh] | rw [hh]
      refine wpAny_throw ?_
      refine hE _ _ (by rw [show N - (m + 1) = j by omega] at ht; exact ht) ⟨fun b o h1 h2 e => ?_, rfl, rfl, ?_⟩ ⟨_, Heap.get?_push_size _ rfl, rfl⟩
      · exact Heap.get?_push_of_some _ (Heap.get?_push_of_some _ (hk₁ b o h1 h2 e))
      · exact GenOnlyQ.of ((GenOnly.setGen s g .running).trans (GenOnly.setGen _ g .finished)) (setGen_self (gs := .running) (setGen_self hgs)) rfl
    · obtain ⟨⟨x, t, hx, rfl⟩, ⟨h₁, tk₁, rfl, hk₁⟩, hkap⟩ := hv
      rw [show N - 1 - (m + 1 - 1) = j by omega] at hx
      refine wpAny_pure ⟨_, rfl, hI x t _ hx (fun hj' => ?_) ⟨hk₁, rfl, rfl, ?_⟩⟩
      · obtain ⟨o, nm, qn, ho, hc, r⟩ := hg
        obtain ⟨mc, ⟨oc, es, ep, hoc, hdc, rc⟩, hnn⟩ := hl
        refine ⟨⟨o, nm, qn, hk₁ a o haC (.inr (not_LI_cls hc (by decide))) ho, hc, r⟩, ⟨mc, ⟨oc, es, ep, hk₁ _ _ hcC (.inr (not_LI_data hdc)) hoc, hdc, rc⟩, hnn⟩, gs', setGen_self (gs := .running) (setGen_self hgs), fun s'' hal => ?_⟩
        rw [show N - (j + 1) = m by omega]
        exact hkap (by omega) s'' hal
      · exact GenOnlyQ.of ((GenOnly.setGen s g .running).trans (GenOnly.setGen _ g gs')) (setGen_self (gs := .running) (setGen_self hgs)) hb

theorem nextOf_special {v : Value} {Q : Value → Shared → Prop} (h : wpAny (model prog w) A (callSpecial? v (Str.ofString "__next__")) (fun r s' => ∃ x, r = some x ∧ Q x s') E s) :
    wpAny (model prog w) A (Builtin.SmallTypes.nextOf v) Q E s := by
  unfold Builtin.SmallTypes.nextOf
  refine wpAny_bind (wpAny_mono h (fun r s' hr => ?_) fun _ _ e => e)
  obtain ⟨x, rfl, hx⟩ := hr
  exact wpAny_pure hx
end
end Mine
/- zip over a range and the generator -/
namespace Mine
section
variable {prog : Program} {w : World} {A : Around} {E : Value → Shared → Prop} {s : Shared}

theorem nextOf_range_item {it : Addr} {x left step : Int} {Q : Value → Shared → Prop} (hit : IsRangeIter s.heap it x left step) (hleft : 0 < left)
    (hQ : ∀ h', IsRangeIter h' it (x + step) (left - 1) step → Heap.SameBut it s.heap h' → Q (.int x s.toks) { s with heap := h', toks := s.toks + 1 }) :
    wpAny (model prog w) A (Builtin.SmallTypes.nextOf (.ref it)) Q E s := by
  have hT : s.TypeIs (.ref it) "range_iterator" := ⟨_, hit, rfl⟩
  refine nextOf_special (wpAny_callSpecial?_slot (name := Str.ofString "__next__") hT F.slot_range_iterator_next
    (call_meets F.slot_range_iterator_next hT F.entry_range_iterator_next (F.args_range_iterator_next_1 _) (AutoRange.range_iterator___next___range_iterator_1 it x left step (by omega)) ⟨hit, ?_⟩))
  exact ⟨_, rfl, hQ _ (Heap.get?_update_self _ (Heap.get?_update_self _ hit rfl) rfl) ((Heap.SameBut.update ..).trans (Heap.SameBut.update ..))⟩

theorem nextOf_range_end {it : Addr} {x left step : Int} {Q : Value → Shared → Prop} (hh : A.handled = none) (hit : IsRangeIter s.heap it x left step) (hleft : left ≤ 0)
    (hE : ∀ h' e, (∀ b o, s.heap.get? b = some o → h'.get? b = some o) → (∃ o, h'.get? e = some o ∧ o.cls = .type "StopIteration") → E (.ref e) { s with heap := h' }) : wpAny (model prog w) A (Builtin.SmallTypes.nextOf (.ref it)) Q E s := by
  have hT : s.TypeIs (.ref it) "range_iterator" := ⟨_, hit, rfl⟩
  refine nextOf_special (wpAny_callSpecial?_slot (name := Str.ofString "__next__") hT F.slot_range_iterator_next
    (wpAny_call_entry F.slot_range_iterator_next hT F.entry_range_iterator_next ?_ (F.args_range_iterator_next_1 _)))
  show wpAny _ _ (field (.ref it) 0 >>= _) _ _ s
  refine wpAny_bind (wpAny_field hit rfl (x := rawInt x) rfl ?_)
  show wpAny _ _ (field (.ref it) 1 >>= _) _ _ s
  refine wpAny_bind (wpAny_field hit rfl (x := rawInt left) rfl ?_)
  show wpAny _ _ (field (.ref it) 2 >>= _) _ _ s
  refine wpAny_bind (wpAny_field hit rfl (x := rawInt step) rfl ?_)
  show wpAny _ _ (if left ≤ 0 then _ else _) _ _ s
  rw [if_pos hleft]
  refine wpAny_bind (wpAny_rule ?_)
  refine wpAny_bind ?_
  show wpAny _ _ (newExc (.type "StopIteration") [] >>= _) _ _ _
  refine wpAny_bind ?_
  simp only [newExc, newTuple]
  refine wpAny_bind (wpAny_newObj_type ?_ (by size_fits))
  refine wpAny_bind (m := firstArgMember _ _) (wpAny_of_eq (a := Value.none) (by first | rfl | (simp only [firstArgMember]; rfl)) ?_)
  refine wpAny_newObj_type ?_ (by size_fits)
  simp only [raiseNew]
  refine wpAny_bind (wpAny_handled ?_)
  first | rw [show A.in1.handled = none from hh] | rw [hh]
  refine wpAny_throw ?_
  exact hE _ _ (fun b o e => Heap.get?_push_of_some _ (Heap.get?_push_of_some _ e)) ⟨_, Heap.get?_push_size _ rfl, rfl⟩

/-- which addresses differ -/
structure ZD (z TI TO ri a C lg : Addr) : Prop where
  TIz : TI ≠ z
  TOz : TO ≠ z
  riz : ri ≠ z
  TITO : TI ≠ TO
  TIri : TI ≠ ri
  TOri : TO ≠ ri
  az : a ≠ z
  aTO : a ≠ TO
  ari : a ≠ ri
  Cz : C < z
  CTI : C < TI
  CTO : C < TO
  Cri : C < ri
  Ca : C < a
  lgC : lg < C
  gC : mainGlobals < C
  sC : cStatics < C

theorem zip_not_LI {h : Heap} {z TI TO : Addr} {f0 : Value} (hz : IsZip h z TI TO f0) : ∀ o, h.get? z = some o → ¬ LI o := fun o e => by
  rw [hz] at e; cases e; exact not_LI_cls (c := .type "zip") rfl (by decide)
theorem pair_not_LI {h : Heap} {T : Addr} {a b : Value} (hz : IsPair h T a b) : ∀ o, h.get? T = some o → ¬ LI o := fun o e => by
  rw [hz] at e; cases e; exact not_LI_cls (c := .type "tuple") rfl (by decide)
theorem range_not_LI {h : Heap} {ri : Addr} {x l c : Int} (hz : IsRangeIter h ri x l c) : ∀ o, h.get? ri = some o → ¬ LI o := fun o e => by
  rw [hz] at e; cases e; exact not_LI_cls (c := .type "range_iterator") rfl (by decide)

/-- the generator stays as it was where one object beyond C changes -/
theorem GAt.one {N : Nat} {gr : List Int} {a : Addr} {g : Nat} {C lg : Addr} {j : Nat} {x : Addr} {h' : Heap} {tk : Nat} (G : GAt prog w A N gr a g C lg j s) (hs : Heap.SameBut x s.heap h')
    (hx : C < x) (hxa : a ≠ x) (hl : lg < C) (hg : mainGlobals < C) (hc : cStatics < C) (hn : ∀ o, s.heap.get? x = some o → ¬ LI o) : GAt prog w A N gr a g C lg j { s with heap := h', toks := tk } :=
  G.keeps (wr := [x]) (fun b o hb e => hs.extBut b o (fun e => hb (List.mem_singleton.mpr e)) e) (fun b hb => by
    rw [List.mem_singleton] at hb; subst hb
    exact ⟨hxa.symm, Nat.ne_of_gt (Nat.lt_trans hc hx), Nat.ne_of_gt hx, Nat.ne_of_gt (Nat.lt_trans hl hx), Nat.ne_of_gt (Nat.lt_trans hg hx), hn⟩)

/-- what one turn of zip leaves -/
def ZM (g : Nat) (C z TO ri : Addr) (s s' : Shared) : Prop :=
  (∀ b o, b ≠ C → b ≠ z → b ≠ TO → b ≠ ri → (b < C ∨ ¬ LI o) → s.heap.get? b = some o → s'.heap.get? b = some o) ∧ s'.drawn = s.drawn ∧ s'.os = s.os ∧ GenOnlyQ g s.gens s'.gens

theorem zip_ask {N : Nat} {gr : List Int} {a : Addr} {g : Nat} {C lg : Addr} {j : Nat} {z TI TO ri : Addr} {p q : Value} {i left : Int} {Q : Value → Shared → Prop} (hh : A.handled = none) (hroom : A.depth < recursionLimit) (D : ZD z TI TO ri a C lg)
    (hz : IsZip s.heap z TI TO .none) (hTI : IsPair s.heap TI (.ref ri) (.ref a)) (hTO : IsPair s.heap TO p q) (hr : IsRangeIter s.heap ri i left 1) (hleft : 0 < left)
    (G : GAt prog w A N gr a g C lg j s) (hj : j < N)
    (hI : ∀ x t u (T : Addr) s', tell gr none j = some x → IsZip s'.heap z TI TO (rawInt T) → IsPair s'.heap T (.int i u) (.int x t) → IsPair s'.heap TI (.ref ri) (.ref a) → (∃ p q, IsPair s'.heap TO p q) → IsRangeIter s'.heap ri (i + 1) (left - 1) 1 →
      (j + 1 < N → GAt prog w A N gr a g C lg (j + 1) s') → ZM g C z TO ri s s' → Q (.ref T) s')
    (hE : ∀ e s', tell gr none j = none → ZM g C z TO ri s s' → (∃ o, s'.heap.get? e = some o ∧ o.cls = .type "StopIteration") → E (.ref e) s') :
    wpAny (model prog w) A (Builtin.«zip.__next__» ⟨[.ref z], []⟩) (fun fin s' => ∃ v, fin = .done (.ret v) ∧ Q v s') E s := by
  show wpAny _ _ (field (.ref z) 2 >>= _) _ _ _
  refine wpAny_bind (wpAny_field hz rfl (x := .bool false) rfl ?_)
  show wpAny _ _ (field (.ref z) 3 >>= _) _ _ _
  refine wpAny_bind (wpAny_field hz rfl (x := .ref TI) rfl ?_)
  refine wpAny_bind (wpAny_seqItems hTI rfl ?_)
  show wpAny _ _ (Builtin.SmallTypes.ownedTupleIsFree (.ref z) >>= _) _ _ _
  refine wpAny_bind ?_
  unfold Builtin.SmallTypes.ownedTupleIsFree
  refine wpAny_bind (wpAny_field hz rfl (x := .none) rfl (wpAny_pure ?_))
  simp only [if_true]
  refine wpAny_bind (wpAny_rule ?_)
  refine wpAny_bind (wpAny_field hz rfl (x := .ref TO) rfl ?_)
  refine wpAny_bind (wpAny_setField_rec hz (by simp) fun h₁ hz₁ hs₁ => ?_)
  replace hz₁ : IsZip h₁ z TI TO .ellipsis := hz₁
  have G₁ : GAt prog w A N gr a g C lg j { s with heap := h₁, toks := s.toks } := G.one hs₁ D.Cz D.az D.lgC D.gC D.sC (zip_not_LI hz)
  have hr₁ : IsRangeIter h₁ ri i left 1 := hs₁.extBut _ _ D.riz hr
  refine wpAny_bind ?_
  simp only [List.zipIdx_cons, List.zipIdx_nil, List.forIn_cons, List.forIn_nil]
  -- the range
  refine wpAny_bind (wpAny_bind (wpAny_onRaise ?_))
  show wpAny _ _ (Builtin.SmallTypes.nextOf (.ref ri) >>= _) _ _ _
  refine wpAny_bind (nextOf_range_item hr₁ hleft fun h₂ hr₂ hs₂ => wpAny_pure ?_)
  have G₂ : GAt prog w A N gr a g C lg j { s with heap := h₂, toks := s.toks + 1 } := G₁.one hs₂ D.Cri D.ari D.lgC D.gC D.sC (range_not_LI hr₁)
  have hTO₂ : IsPair h₂ TO p q := hs₂.extBut _ _ D.TOri (hs₁.extBut _ _ D.TOz hTO)
  refine wpAny_bind (wpAny_seqItems hTO₂ rfl ?_)
  refine wpAny_bind (wpAny_updateSeq_pair hTO₂ fun h₃ hTO₃ hs₃ => ?_)
  replace hTO₃ : IsPair h₃ TO (.int i s.toks) q := hTO₃
  have G₃ : GAt prog w A N gr a g C lg j { s with heap := h₃, toks := s.toks + 1 } := G₂.one hs₃ D.CTO D.aTO D.lgC D.gC D.sC (pair_not_LI hTO₂)
  refine wpAny_bind (wpAny_letGo (wpAny_pure ?_))
  have hz₃ : IsZip h₃ z TI TO .ellipsis := hs₃.extBut _ _ D.TOz.symm (hs₂.extBut _ _ D.riz.symm hz₁)
  have hTI₃ : IsPair h₃ TI (.ref ri) (.ref a) := hs₃.extBut _ _ D.TITO (hs₂.extBut _ _ D.TIri (hs₁.extBut _ _ D.TIz hTI))
  have hr₃ : IsRangeIter h₃ ri (i + 1) (left - 1) 1 := hs₃.extBut _ _ D.TOri.symm hr₂
  have up₃ : ∀ b o, b ≠ z → b ≠ TO → b ≠ ri → s.heap.get? b = some o → h₃.get? b = some o := fun b o c1 c2 c3 e => hs₃.extBut _ _ c2 (hs₂.extBut _ _ c3 (hs₁.extBut _ _ c1 e))
  -- the generator
  refine wpAny_bind (wpAny_bind (wpAny_onRaise ?_))
  show wpAny _ _ (Builtin.SmallTypes.nextOf (.ref a) >>= _) _ _ _
  refine wpAny_bind (nextOf_special (gen_wake hh hroom (Nat.ne_of_gt D.Ca) (Nat.ne_of_lt D.sC) G₃ hj (fun x t s₄ hx G₄ M₄ => ⟨_, rfl, wpAny_pure ?_⟩) (fun e s₄ hx M₄ he => ?_)))
  · obtain ⟨hk₄, hd₄, ho₄, hg₄⟩ := M₄
    have hTO₄ : IsPair s₄.heap TO (.int i s.toks) q := hk₄ _ _ (Nat.ne_of_gt D.CTO) (.inr (pair_not_LI hTO₃ _ hTO₃)) hTO₃
    have hz₄ : IsZip s₄.heap z TI TO .ellipsis := hk₄ _ _ (Nat.ne_of_gt D.Cz) (.inr (zip_not_LI hz₃ _ hz₃)) hz₃
    have hTI₄ : IsPair s₄.heap TI (.ref ri) (.ref a) := hk₄ _ _ (Nat.ne_of_gt D.CTI) (.inr (pair_not_LI hTI₃ _ hTI₃)) hTI₃
    have hr₄ : IsRangeIter s₄.heap ri (i + 1) (left - 1) 1 := hk₄ _ _ (Nat.ne_of_gt D.Cri) (.inr (range_not_LI hr₃ _ hr₃)) hr₃
    refine wpAny_bind (wpAny_seqItems hTO₄ rfl ?_)
    refine wpAny_bind (wpAny_updateSeq_pair hTO₄ fun h₅ hTO₅ hs₅ => ?_)
    replace hTO₅ : IsPair h₅ TO (.int i s.toks) (.int x t) := hTO₅
    refine wpAny_bind (wpAny_letGo (wpAny_pure (wpAny_pure ?_)))
    refine wpAny_bind (wpAny_seqItems hTO₅ rfl ?_)
    refine wpAny_bind (wpAny_newTuple ?_)
    have hz₅ : IsZip h₅ z TI TO .ellipsis := hs₅.extBut _ _ D.TOz.symm hz₄
    have hzlt : z < h₅.objs.size := Heap.lt_size hz₅
    show wpAny _ _ (Builtin.SmallTypes.ownedTupleHandOut (.ref z) (.ref h₅.objs.size) >>= _) _ _ _
    refine wpAny_bind ?_
    unfold Builtin.SmallTypes.ownedTupleHandOut
    have hz₆ : IsZip (h₅.push { cls := .type "tuple", data := .seq #[.int i s.toks, .int x t] }) z TI TO .ellipsis := Heap.get?_push_of_some _ hz₅
    refine wpAny_bind (wpAny_setField_rec hz₆ (by simp) fun h₇ hz₇ hs₇ => ?_)
    replace hz₇ : IsZip h₇ z TI TO (rawInt h₅.objs.size) := hz₇
    refine wpAny_setField_rec hz₇ (by simp) fun h₈ hz₈ hs₈ => ?_
    replace hz₈ : IsZip h₈ z TI TO (rawInt h₅.objs.size) := hz₈
    have up : ∀ c o, c ≠ z → h₅.get? c = some o → h₈.get? c = some o := fun c o c1 e => hs₈.extBut _ _ c1 (hs₇.extBut _ _ c1 (Heap.get?_push_of_some _ e))
    have hT₈ : IsPair h₈ h₅.objs.size (.int i s.toks) (.int x t) := hs₈.extBut _ _ (Nat.ne_of_gt hzlt) (hs₇.extBut _ _ (Nat.ne_of_gt hzlt) (Heap.get?_push_size _ rfl))
    refine wpAny_pure ⟨_, rfl, ?_⟩
    have upp : ∀ b o, b ≠ TO → b ≠ z → s₄.heap.get? b = some o → h₈.get? b = some o := fun b o c1 c2 e => up _ _ c2 (hs₅.extBut _ _ c1 e)
    refine hI x t _ h₅.objs.size { s₄ with heap := h₈ } hx hz₈ hT₈ (upp _ _ D.TITO D.TIz hTI₄) ⟨_, _, up _ _ D.TOz hTO₅⟩ (upp _ _ D.TOri.symm D.riz hr₄) (fun hj' => ?_) ⟨fun b o c1 c2 c3 c4 c5 e => upp b o c3 c2 (hk₄ b o c1 c5 (up₃ b o c2 c3 c4 e)), hd₄, ho₄, hg₄⟩
    refine (G₄ hj').keeps (wr := [TO, z]) (fun b o hb e => upp b o (fun h => hb (by simp [h])) (fun h => hb (by simp [h])) e) ?_
    intro b hb
    have hlt : ∀ {y : Addr}, C < y → y ≠ cStatics ∧ y ≠ C ∧ y ≠ lg ∧ y ≠ mainGlobals := fun h => ⟨Nat.ne_of_gt (Nat.lt_trans D.sC h), Nat.ne_of_gt h, Nat.ne_of_gt (Nat.lt_trans D.lgC h), Nat.ne_of_gt (Nat.lt_trans D.gC h)⟩
    rcases List.mem_cons.mp hb with rfl | hb
    · obtain ⟨c1, c2, c3, c4⟩ := hlt D.CTO
      exact ⟨D.aTO.symm, c1, c2, c3, c4, pair_not_LI hTO₄⟩
    · rw [List.mem_singleton] at hb; subst hb
      obtain ⟨c1, c2, c3, c4⟩ := hlt D.Cz
      exact ⟨D.az.symm, c1, c2, c3, c4, zip_not_LI hz₄⟩
  · obtain ⟨hk₄, hd₄, ho₄, hg₄⟩ := M₄
    have hz₄ : IsZip s₄.heap z TI TO .ellipsis := hk₄ _ _ (Nat.ne_of_gt D.Cz) (.inr (zip_not_LI hz₃ _ hz₃)) hz₃
    obtain ⟨oe, hoe, hce⟩ := he
    have hez : e ≠ z := fun x => by subst x; rw [hz₄] at hoe; cases hoe; simp at hce
    refine wpAny_setField_rec hz₄ (by simp) fun h₅ _ hs₅ => hE e _ hx ⟨fun b o c1 c2 c3 c4 c5 x => hs₅.extBut _ _ c2 (hk₄ b o c1 c5 (up₃ b o c2 c3 c4 x)), hd₄, ho₄, hg₄⟩ ⟨oe, hs₅.extBut _ _ hez hoe, hce⟩

/-- the range is through -/
theorem zip_over {z TI TO ri : Addr} {y : Value} {i left : Int} {Q : Fin → Shared → Prop} (hh : A.handled = none) (hrz : ri ≠ z)
    (hz : IsZip s.heap z TI TO .none) (hTI : IsPair s.heap TI (.ref ri) y) (hr : IsRangeIter s.heap ri i left 1) (hleft : left ≤ 0)
    (hE : ∀ h' e, (∀ b o, b ≠ z → s.heap.get? b = some o → h'.get? b = some o) → (∃ o, h'.get? e = some o ∧ o.cls = .type "StopIteration") → E (.ref e) { s with heap := h' }) :
    wpAny (model prog w) A (Builtin.«zip.__next__» ⟨[.ref z], []⟩) Q E s := by
  show wpAny _ _ (field (.ref z) 2 >>= _) _ _ _
  refine wpAny_bind (wpAny_field hz rfl (x := .bool false) rfl ?_)
  show wpAny _ _ (field (.ref z) 3 >>= _) _ _ _
  refine wpAny_bind (wpAny_field hz rfl (x := .ref TI) rfl ?_)
  refine wpAny_bind (wpAny_seqItems hTI rfl ?_)
  show wpAny _ _ (Builtin.SmallTypes.ownedTupleIsFree (.ref z) >>= _) _ _ _
  refine wpAny_bind ?_
  unfold Builtin.SmallTypes.ownedTupleIsFree
  refine wpAny_bind (wpAny_field hz rfl (x := .none) rfl (wpAny_pure ?_))
  simp only [if_true]
  refine wpAny_bind (wpAny_rule ?_)
  refine wpAny_bind (wpAny_field hz rfl (x := .ref TO) rfl ?_)
  refine wpAny_bind (wpAny_setField_rec hz (by simp) fun h₁ hz₁ hs₁ => ?_)
  replace hz₁ : IsZip h₁ z TI TO .ellipsis := hz₁
  have hr₁ : IsRangeIter h₁ ri i left 1 := hs₁.extBut _ _ hrz hr
  refine wpAny_bind ?_
  simp only [List.zipIdx_cons, List.zipIdx_nil, List.forIn_cons, List.forIn_nil]
  refine wpAny_bind (wpAny_bind (wpAny_onRaise ?_))
  show wpAny _ _ (Builtin.SmallTypes.nextOf (.ref ri) >>= _) _ _ _
  refine wpAny_bind (nextOf_range_end hh hr₁ hleft fun h₂ e hk₂ he => ?_)
  obtain ⟨oe, hoe, hce⟩ := he
  have hz₂ : IsZip h₂ z TI TO .ellipsis := hk₂ _ _ hz₁
  have hez : e ≠ z := fun x => by subst x; rw [hz₂] at hoe; cases hoe; simp at hce
  exact wpAny_setField_rec hz₂ (by simp) fun h₃ _ hs₃ => hE h₃ e (fun b o c1 x => hs₃.extBut _ _ c1 (hk₂ _ _ (hs₁.extBut _ _ c1 x))) ⟨oe, hs₃.extBut _ _ hez hoe, hce⟩
end
end Mine
/- the loop of _law_told -/
namespace Mine
/-- the partial sums that are told -/
def toldFrom (gr : List Int) : Int → Nat → Nat → List Int
  | _, _, 0 => []
  | tot, j, n + 1 => match tell gr none j with
    | none => []
    | some x => (tot + x) :: toldFrom gr (tot + x) (j + 1) n

def toldB : List Stmt := fnBody PySem.Challenge.pw_dm0204_05 4
def toldS : Scope := fnScope PySem.Challenge.pw_dm0204_05 4
abbrev toldE (L f : Addr) (cd : Value) : Env := envOf "_law_told" toldS L f cd
def tFor : List Stmt := match toldB.drop 1 with | .For _ _ b _ _ :: _ => b | _ => []
def tTgt : Expr := match toldB.drop 1 with | .For t _ _ _ _ :: _ => t | _ => default

/-- the zip that has been asked j times -/
def ZS (prog : Program) (w : World) (A : Around) (N : Nat) (gr : List Int) (a : Addr) (g : Nat) (C lg z TI TO ri : Addr) (j : Nat) (s : Shared) : Prop :=
  IsZip s.heap z TI TO .none ∧ IsPair s.heap TI (.ref ri) (.ref a) ∧ (∃ p q, IsPair s.heap TO p q) ∧ IsRangeIter s.heap ri (j : Nat) ((N : Int) - (j : Nat)) 1 ∧ (j < N → GAt prog w A N gr a g C lg j s)

section
variable {prog : Program} {w : World} {A : Around} {E : Value → Shared → Prop} {s : Shared} {N : Nat} {gr : List Int} {a : Addr} {g : Nat} {C lg z TI TO ri : Addr} {j : Nat}

/-- an older object changes that is none of the generator's -/
theorem ZS.old {x : Addr} {h' : Heap} {tk : Nat} (Z : ZS prog w A N gr a g C lg z TI TO ri j s) (D : ZD z TI TO ri a C lg) (hs : Heap.SameBut x s.heap h') (hx : x < C) (h1 : x ≠ lg) (h2 : x ≠ mainGlobals) (h3 : x ≠ cStatics)
    (hn : ∀ o, s.heap.get? x = some o → ¬ LI o) : ZS prog w A N gr a g C lg z TI TO ri j { s with heap := h', toks := tk } := by
  obtain ⟨z1, z2, ⟨p, q, z3⟩, z4, z5⟩ := Z
  have ne : ∀ {y : Addr}, C < y → y ≠ x := fun h e => Nat.lt_irrefl _ (Nat.lt_trans (e ▸ h) hx)
  refine ⟨hs.extBut _ _ (ne D.Cz) z1, hs.extBut _ _ (ne D.CTI) z2, ⟨p, q, hs.extBut _ _ (ne D.CTO) z3⟩, hs.extBut _ _ (ne D.Cri) z4, fun hj => ?_⟩
  refine (z5 hj).keeps (wr := [x]) (fun b o hb e => hs.extBut b o (fun e => hb (List.mem_singleton.mpr e)) e) (fun b hb => ?_)
  rw [List.mem_singleton] at hb; subst hb
  exact ⟨(ne D.Ca).symm, h3, Nat.ne_of_lt hx, h1, h2, hn⟩
/-- nothing changes -/
theorem ZS.same {h' : Heap} {tk : Nat} (Z : ZS prog w A N gr a g C lg z TI TO ri j s) (hs : ∀ b o, s.heap.get? b = some o → h'.get? b = some o) : ZS prog w A N gr a g C lg z TI TO ri j { s with heap := h', toks := tk } := by
  obtain ⟨z1, z2, ⟨p, q, z3⟩, z4, z5⟩ := Z
  exact ⟨hs _ _ z1, hs _ _ z2, ⟨p, q, hs _ _ z3⟩, hs _ _ z4, fun hj => (z5 hj).keeps (wr := []) (fun b o _ e => hs b o e) (fun b hb => nomatch hb)⟩

/-- one turn of the zip, and the tuple unpacked by the loop's target, let go -/
theorem pyNext_zip {Q : Option Value → Shared → Prop} (hh : A.handled = none) (hroom : A.in1.depth < recursionLimit) (D : ZD z TI TO ri a C lg) (Z : ZS prog w A.in1 N gr a g C lg z TI TO ri j s) (hj : j < N)
    (hI : ∀ x t u (T : Addr) s', tell gr none j = some x → IsZip s'.heap z TI TO (rawInt T) → IsPair s'.heap T (.int (j : Nat) u) (.int x t) →
      (∀ h' : Heap, IsZip h' z TI TO .none → Heap.SameBut z s'.heap h' → ZS prog w A.in1 N gr a g C lg z TI TO ri (j + 1) { s' with heap := h' }) → ZM g C z TO ri s s' → Q (some (.ref T)) s')
    (hE : ∀ s', tell gr none j = none → ZM g C z TO ri s s' → Q none s') : wpAny (model prog w) A (pyNext (.ref z)) Q E s := by
  obtain ⟨hz, hTI, ⟨p, q, hTO⟩, hr, G⟩ := Z
  have hT : s.TypeIs (.ref z) "zip" := ⟨_, hz, rfl⟩
  unfold pyNext
  refine wpAny_bind (wpAny_attempt (wpAny_callSpecial?_slot (name := Str.ofString "__next__") hT F.slot_zip_next (wpAny_call_entry F.slot_zip_next hT F.entry_zip_next ?_ (F.args_zip_next_1 _))))
  refine zip_ask hh hroom D hz hTI hTO hr (by omega) (G hj) hj (fun x t u T s' hx hz' hT' hTI' hTO' hr' G' M => wpAny_pure ?_) (fun e s' hx M he => ?_)
  · refine hI x t u T s' hx hz' hT' (fun h' hz'' hs => ?_) M
    obtain ⟨p', q', hTO'⟩ := hTO'
    refine ⟨hz'', hs.extBut _ _ D.TIz hTI', ⟨p', q', hs.extBut _ _ D.TOz hTO'⟩, ?_, fun hj' => ?_⟩
    · have := hs.extBut _ _ D.riz hr'
      rw [show ((j + 1 : Nat) : Int) = (j : Int) + 1 by omega, show (N : Int) - ((j : Int) + 1) = N - j - 1 by omega]
      exact this
    · exact (G' hj').one (tk := s'.toks) hs D.Cz D.az D.lgC D.gC D.sC (zip_not_LI hz')
  · obtain ⟨o, ho, hc⟩ := he
    refine wpAny_bind (wpAny_isInstance (T := "StopIteration") (b := true) ⟨o, ho, hc⟩ isSubtype_stop ?_)
    exact wpAny_pure (hE s' hx M)
theorem pyNext_zip_over {Q : Option Value → Shared → Prop} (hh : A.handled = none) (D : ZD z TI TO ri a C lg) (Z : ZS prog w A.in1 N gr a g C lg z TI TO ri N s)
    (hE : ∀ h', (∀ b o, b ≠ z → s.heap.get? b = some o → h'.get? b = some o) → Q none { s with heap := h' }) : wpAny (model prog w) A (pyNext (.ref z)) Q E s := by
  obtain ⟨hz, hTI, _, hr, _⟩ := Z
  have hT : s.TypeIs (.ref z) "zip" := ⟨_, hz, rfl⟩
  unfold pyNext
  refine wpAny_bind (wpAny_attempt (wpAny_callSpecial?_slot (name := Str.ofString "__next__") hT F.slot_zip_next (wpAny_call_entry F.slot_zip_next hT F.entry_zip_next ?_ (F.args_zip_next_1 _))))
  refine zip_over hh D.riz hz hTI hr (by omega) (fun h' e hk he => ?_)
  obtain ⟨o, ho, hc⟩ := he
  refine wpAny_bind (wpAny_isInstance (T := "StopIteration") (b := true) ⟨o, ho, hc⟩ isSubtype_stop ?_)
  exact wpAny_pure (hE h' hk)
end
end Mine
/- the loop of _law_told, turn by turn -/
namespace Mine
theorem fr_moves {g h h' : Heap} {L C : Addr} {m : Str → Option Value} (F : Fr g L h m) (hL : L < C) (k : ∀ b o, b < C → h.get? b = some o → h'.get? b = some o) : Fr g L h' m :=
  ⟨F.ns.at' fun o e => k _ o hL e, fun b o e => k b o (Nat.lt_trans (Nat.lt_of_lt_of_le (Heap.lt_size e) F.above) hL) (F.keep b o e), F.above⟩
theorem news_moves {g h h' : Heap} {L C : Addr} {news : List (Addr × Obj)} (N : News g L h news) (hn : ∀ q ∈ news, q.1 < C) (k : ∀ b o, b < C → h.get? b = some o → h'.get? b = some o) : News g L h' news :=
  fun q hq => ⟨k _ _ (hn q hq) (N q hq).1, (N q hq).2⟩
theorem ZM.old {g : Nat} {C z TO ri TI a lg : Addr} {s s' : Shared} (M : ZM g C z TO ri s s') (D : ZD z TI TO ri a C lg) : ∀ b o, b < C → s.heap.get? b = some o → s'.heap.get? b = some o :=
  fun b o hb e => M.1 b o (Nat.ne_of_lt hb) (Nat.ne_of_lt (Nat.lt_trans hb D.Cz)) (Nat.ne_of_lt (Nat.lt_trans hb D.CTO)) (Nat.ne_of_lt (Nat.lt_trans hb D.Cri)) (.inl hb) e

section
variable {prog : Program} {w : World} {A : Around} {s : Shared} {N : Nat} {gr : List Int} {a : Addr} {gi : Nat} {C lg z TI TO ri : Addr} {g : Heap} {L f P : Addr} {cd : Value} {news : List (Addr × Obj)} {R : Result → Shared → Prop}

/-- a store in the frame: the zip stays -/
theorem store_Z {M : Around} {E : Value → Shared → Prop} {Q : Unit → Shared → Prop} {m : Str → Option Value} {j : Nat} {x : Str} {v : Value} {news' : List (Addr × Obj)} (F : Fr g L s.heap m) (N' : News g L s.heap news') (Z : ZS prog w A N gr a gi C lg z TI TO ri j s) (D : ZD z TI TO ri a C lg) (hLC : L < C)
    (hLl : L ≠ lg) (hLg : L ≠ mainGlobals) (hLs : L ≠ cStatics)
    (h : ∀ h', Fr g L h' (fun y => if y = x then some v else m y) → News g L h' news' → ZS prog w A N gr a gi C lg z TI TO ri j { s with heap := h', toks := s.toks + 1 } → Q () { s with heap := h', toks := s.toks + 1 })
    (hx : (toldE L f cd).kindOf x = some .local := by rfl) : wpAny (model prog w) M (storeName (toldE L f cd) x v) Q E s :=
  wpAny_storeName_local hx F.ns (fun h' hn hs => h h' (F.set hn hs) (N'.set hs) (Z.old D hs hLC hLl hLg hLs (fun o e => by
    obtain ⟨o', es, ep, ho, hd, _⟩ := F.ns
    have e' : s.heap.get? L = some o := e
    rw [ho] at e'; cases e'; exact not_LI_data hd)))

theorem told_loop (hh : A.handled = none) (hroom : A.in1.depth < recursionLimit) (hN : N ≤ 1000) (D : ZD z TI TO ri a C lg) (hLC : L < C) (hPC : P < C) (hnC : ∀ q ∈ news, q.1 < C) (hPn : ∀ q ∈ news, q.1 ≠ P)
    (hLl : L ≠ lg) (hLg : L ≠ mainGlobals) (hLs : L ≠ cStatics) (hPl : P ≠ lg) (hPg : P ≠ mainGlobals) (hPs : P ≠ cStatics)
    {m : Str → Option Value} {t0 : Tok} {ep : Nat} (F₀ : Fr g L s.heap m) (N₀ : News g L s.heap ((P, listOf #[] ep) :: news)) (hm1 : m "places" = some (.ref P)) (hm2 : m "total" = some (.int 0 t0)) (Z₀ : ZS prog w A.in1 N gr a gi C lg z TI TO ri 0 s)
    (hR : ∀ s' m' acc ep', Fr g L s'.heap m' → News g L s'.heap ((P, listOf (List.toArray acc) ep') :: news) → IntsAre acc (toldFrom gr 0 0 N) → m' "places" = some (.ref P) → s'.drawn = s.drawn → s'.os = s.os → GenOnlyQ gi s.gens s'.gens → R (.ok .next) s') :
    codeAny (model prog w) A (.forLoop tTgt (.ref z) tFor [] (toldE L f cd)) R s := by
  refine codeAny_forLoop_any
    (fun n s' => ∃ j m' acc ep' sums tot tt, n = N + 1 - j ∧ j ≤ N ∧ Fr g L s'.heap m' ∧ News g L s'.heap ((P, listOf (List.toArray acc) ep') :: news) ∧ IntsAre acc sums ∧ sums.length ≤ j ∧ sums ++ toldFrom gr tot j (N - j) = toldFrom gr 0 0 N ∧
      m' "places" = some (.ref P) ∧ m' "total" = some (.int tot tt) ∧ ZS prog w A.in1 N gr a gi C lg z TI TO ri j s' ∧ s'.drawn = s.drawn ∧ s'.os = s.os ∧ GenOnlyQ gi s.gens s'.gens) ?_ (N + 1)
    ⟨0, m, [], ep, [], 0, t0, rfl, Nat.zero_le _, F₀, N₀, .nil, Nat.le_refl _, rfl, hm1, hm2, Z₀, rfl, rfl, .inl rfl⟩
  rintro n s' ⟨j, m', acc, ep', sums, tot, tt, rfl, hj, F', N', hI, hsl, hsum, h1, h2, Z, hd, ho, hg⟩
  rcases Nat.lt_or_eq_of_le hj with hj | rfl
  · refine pyNext_zip hh hroom D Z hj (fun x t u T s₁ hx hz₁ hT₁ Z₁ M₁ => ?_) (fun s₁ hx M₁ => ?_)
    · dsimp only
      have F₁ := fr_moves F' hLC (M₁.old D)
      have N₁ := news_moves N' (C := C) (fun q hq => by rcases List.mem_cons.mp hq with rfl | hq; exact hPC; exact hnC q hq) (M₁.old D)
      refine wpAny_letOwnedTupleGo_zip hz₁ (fun h₂ hz₂ sb₂ => ?_)
      have Z₂ := Z₁ h₂ hz₂ sb₂
      have nz : ∀ b, b < C → b ≠ z := fun b hb => Nat.ne_of_lt (Nat.lt_trans hb D.Cz)
      have F₂ := fr_moves F₁ hLC (fun b o hb e => sb₂.extBut b o (nz b hb) e)
      have N₂ := news_moves N₁ (C := C) (fun q hq => by rcases List.mem_cons.mp hq with rfl | hq; exact hPC; exact hnC q hq) (fun b o hb e => sb₂.extBut b o (nz b hb) e)
      have hTz : T ≠ z := fun e => by
        have h9 : s₁.heap.get? z = some _ := e ▸ hT₁
        have h8 : s₁.heap.get? z = some _ := hz₁
        rw [h8] at h9; simp at h9
      have hT₂ : IsPair h₂ T (.int (j : Nat) u) (.int x t) := sb₂.extBut _ _ hTz hT₁
      refine assign_Tuple_tuple hh ⟨_, hT₂, rfl, _, rfl⟩ rfl rfl fun h₃ he₃ => ?_
      have st₃ : ∀ b o, h₂.get? b = some o → h₃.get? b = some o := fun b o e => he₃ b o (Nat.ne_of_lt (Heap.lt_size e)) e
      have F₃ := fr_stays F₂ st₃
      have N₃ := news_stays N₂ st₃
      have Z₃ := Z₂.same (tk := s₁.toks) st₃
      refine assignInOrder_cons (assign_Name (store_Z (s := { s₁ with heap := h₃ }) F₃ N₃ Z₃ D hLC hLl hLg hLs (fun h₄ F₄ N₄ Z₄ => ?_)))
      refine assignInOrder_cons (assign_Name (store_Z F₄ N₄ Z₄ D hLC hLl hLg hLs (fun h₅ F₅ N₅ Z₅ => assignInOrder_nil ?_)))
      refine wpAny_execs_cons (wpAny_AugAssign_Name (wpAny_loadName_local rfl rfl F₅.ns ((if_neg (by decide)).trans ((if_neg (by decide)).trans h2)) (nameX_L (cl := []) F₅ (if_pos rfl) (iadd_int ?_))))
      refine store_Z (s := { s₁ with heap := h₅, toks := _ }) F₅ N₅ (Z₅.same (tk := _) fun _ _ e => e) D hLC hLl hLg hLs (fun h₆ F₆ N₆ Z₆ => ?_)
      refine wpAny_execs_cons (wpAny_Expr (MethodCall_ (nameX_L (cl := []) F₆ ((if_neg (by decide)).trans ((if_neg (by decide)).trans ((if_neg (by decide)).trans h1))) ?_)))
      refine getMethod_append_N N₆ (.head _) (callWith_method1 (args_cons (he := by kernel_rfl) (nameX_L (cl := []) F₆ (if_pos rfl) (args_nil ?_))))
      have zP := N₆ _ (.head _)
      have hal : acc.length = sums.length := hI.length
      refine append_at (its := acc.toArray) (n := ep') zP.1 (fun h₇ hs₇ ho₇ => ?_) (by simp; show _ ≤ 16777216; omega)
      refine wpAny_execs_nil ?_
      dsimp only
      have F₇ := F₆.change hs₇ zP.2.1 zP.2.2
      have N₇ := N₆.setHead hPn hs₇ ho₇
      rw [List.push_toArray] at N₇
      refine ⟨N + 1 - (j + 1), by omega, j + 1, _, acc ++ [.int (tot + x) _], ep' + 1, sums ++ [tot + x], tot + x, _, rfl, hj, F₇, N₇, hI.append (.cons _ _ .nil), by simp; omega, ?_, ?_, if_pos rfl, ?_, ?_, ?_, ?_⟩
      · rw [← hsum, List.append_assoc]
        congr 1
        rw [show N - j = (N - (j + 1)) + 1 by omega]
        simp only [toldFrom, hx]; rfl
      · exact (if_neg (by decide)).trans ((if_neg (by decide)).trans ((if_neg (by decide)).trans h1))
      · exact Z₆.old (tk := _) D hs₇ hPC hPl hPg hPs (fun o e => by rw [zP.1] at e; cases e; exact not_LI_cls (c := .type "list") rfl (by decide))
      · exact M₁.2.1.trans hd
      · exact M₁.2.2.1.trans ho
      · exact hg.trans M₁.2.2.2
    · dsimp only
      refine wpAny_execs_nil ?_
      refine hR s₁ m' acc ep' (fr_moves F' hLC (M₁.old D)) (news_moves N' (C := C) (fun q hq => by rcases List.mem_cons.mp hq with rfl | hq; exact hPC; exact hnC q hq) (M₁.old D)) ?_ h1 (M₁.2.1.trans hd) (M₁.2.2.1.trans ho) (hg.trans M₁.2.2.2)
      rw [← hsum, show N - j = (N - (j + 1)) + 1 by omega]
      simp only [toldFrom, hx, List.append_nil]
      exact hI
  · refine pyNext_zip_over hh D Z (fun h₁ k₁ => ?_)
    dsimp only
    refine wpAny_execs_nil ?_
    have old : ∀ b o, b < C → s'.heap.get? b = some o → h₁.get? b = some o := fun b o hb e => k₁ b o (Nat.ne_of_lt (Nat.lt_trans hb D.Cz)) e
    refine hR _ m' acc ep' (fr_moves F' hLC old) (news_moves N' (C := C) (fun q hq => by rcases List.mem_cons.mp hq with rfl | hq; exact hPC; exact hnC q hq) old) ?_ h1 hd ho hg
    rw [← hsum, Nat.sub_self]
    simp only [toldFrom, List.append_nil]
    exact hI
end
end Mine
/- the generator made, the zip made -/
namespace Mine

abbrev zrH1 (h : Heap) (n : Int) : Heap := h.push { cls := .type "range_iterator", data := .fields #[rawInt 0, rawInt (Builtin.Range.rangeSize 0 n 1), rawInt 1] }
abbrev zrH2 (h : Heap) (n : Int) (a : Addr) : Heap := (zrH1 h n).push { cls := .type "tuple", data := .seq #[.ref h.objs.size, .ref a] }
abbrev zrH3 (h : Heap) (n : Int) (a : Addr) : Heap := (zrH2 h n a).push { cls := .type "tuple", data := .seq #[.none, .none] }
abbrev zrH4 (h : Heap) (n : Int) (a : Addr) : Heap := (zrH3 h n a).push { cls := .type "zip", data := .fields #[.none, .bool false, .bool false, .ref (zrH1 h n).objs.size, .ref (zrH2 h n a).objs.size] }

theorem meets_zip_rg (rg a : Addr) (n : Int) (t u v : Tok) (gi : Nat) (hsm : Builtin.Range.small 0 n 1 = true) :
    Meets (Builtin.«zip.__new__» ⟨[.type "zip", .ref rg, .ref a], []⟩) (fun _ R s => IsRange s.heap rg 0 n 1 t u v ∧ s.heap.IsGen a gi ∧
      R (.ok (.ret (.ref (zrH3 s.heap n a).objs.size))) { s with heap := zrH4 s.heap n a }) :=
  .of_wp fun prog w A R s h => by
    obtain ⟨hp, g, d, tk, os⟩ := s; obtain ⟨hl1, hl2, h⟩ := h
    have hsub := sub_zip
    have hL1 : IsRange (Shared.heap ⟨hp, g, d, tk, os⟩) rg 0 n 1 t u v := hl1
    have hL2 : Heap.IsGen (Shared.heap ⟨hp.push { cls := .type "range_iterator", data := .fields #[rawInt 0, rawInt (Builtin.Range.rangeSize 0 n 1), rawInt 1] }, g, d, tk, os⟩) a gi := Heap.IsGen.push hl2 _
    wp_walk using wpAny_pyIter_range hL1 hsm, wpAny_pyIter_gen hL2
    exact ⟨_, rfl, h⟩

section
variable {prog : Program} {w : World} {A : Around} {E : Value → Shared → Prop} {s : Shared}
theorem call_zip_rg {rg a : Addr} {n : Nat} {t u v : Tok} {gi : Nat} {Q : Value → Shared → Prop} (hn : (n : Int) < 2 ^ 62) (hl1 : IsRange s.heap rg 0 (n : Int) 1 t u v) (hl2 : s.heap.IsGen a gi)
    (h : ∀ h', IsZip h' (s.heap.objs.size + 3) (s.heap.objs.size + 1) (s.heap.objs.size + 2) .none → IsPair h' (s.heap.objs.size + 1) (.ref s.heap.objs.size) (.ref a) →
      IsPair h' (s.heap.objs.size + 2) .none .none → IsRangeIter h' s.heap.objs.size 0 (n : Int) 1 → h'.objs.size = s.heap.objs.size + 4 →
      (∀ c o, s.heap.get? c = some o → h'.get? c = some o) → Q (.ref (s.heap.objs.size + 3)) { s with heap := h' }) :
    wpAny (model prog w) A (call (.type "zip") [.ref rg, .ref a]) Q E s := by
  refine callType_new F.called_zip (by decide) (F.typeCall_zip_2 _ _) (F.newCall_zip_2 _ _) (fun obj => F.args_object_init_3 obj _ _) F.entry_zip_new
    (meets_zip_rg rg a n t u v gi (small_one (by omega) (by omega) (by omega) hn)) ⟨hl1, hl2, ?_⟩
  have z1 : (zrH1 s.heap n).objs.size = s.heap.objs.size + 1 := Heap.size_push ..
  have z2 : (zrH2 s.heap n a).objs.size = s.heap.objs.size + 2 := by rw [Heap.size_push, z1]
  have z3 : (zrH3 s.heap n a).objs.size = s.heap.objs.size + 3 := by rw [Heap.size_push, z2]
  have z4 : (zrH4 s.heap n a).objs.size = s.heap.objs.size + 4 := by rw [Heap.size_push, z3]
  have g4 : (zrH4 s.heap n a).get? (zrH3 s.heap n a).objs.size = some _ := Heap.get?_push_size _ rfl
  have g3 : (zrH4 s.heap n a).get? (zrH2 s.heap n a).objs.size = some _ := Heap.get?_push_of_some _ (Heap.get?_push_size _ rfl)
  have g2 : (zrH4 s.heap n a).get? (zrH1 s.heap n).objs.size = some _ := Heap.get?_push_of_some _ (Heap.get?_push_of_some _ (Heap.get?_push_size _ rfl))
  have g1 : (zrH4 s.heap n a).get? s.heap.objs.size = some _ := Heap.get?_push_of_some _ (Heap.get?_push_of_some _ (Heap.get?_push_of_some _ (Heap.get?_push_size _ rfl)))
  have e : Builtin.Range.rangeSize 0 (n : Int) 1 = n := by rw [rangeSize_one]; split <;> omega
  show _ ∧ _
  rw [z1, z2, z3] at g4
  rw [z2] at g3
  rw [z1] at g2
  rw [e] at g1
  rw [z3]
  refine ⟨⟨_, g4, rfl⟩, h _ g4 g2 g3 g1 z4 (fun c o x => Heap.get?_push_of_some _ (Heap.get?_push_of_some _ (Heap.get?_push_of_some _ (Heap.get?_push_of_some _ x))))⟩

/-- the generator function is called -/
theorem gen_call {h₀ : Heap} {L lg : Addr} {m mg mb : Str → Option Value} {p : Program} {loose : List Str} {mean : ExcName → Option Value} {vs : List Value} {gr : List Int} {N : Nat} {Q : Value → Shared → Prop}
    (F : Fr h₀ L s.heap m) (X : (Mine.hd05.heap_39 w.params).In h₀) (T : Top p loose mean mg mb h₀) (hroom : A.depth < recursionLimit) (hl : s.heap.IsList lg vs.toArray) (hgr : IntsAre vs gr) (h0 : gr.head? ≠ some 0) (hN : 0 < N)
    (hQ : ∀ h' tk gs, gs.bare = true → (∀ b o, s.heap.get? b = some o → h'.get? b = some o) → h'.objs.size = s.heap.objs.size + 2 →
      (∀ A' : Around, A'.handled = none → GAt prog w A' N gr (s.heap.objs.size + 1) s.gens.size s.heap.objs.size lg 0 { s with heap := h', toks := tk, gens := s.gens.push gs }) →
      Q (.ref (s.heap.objs.size + 1)) { s with heap := h', toks := tk, gens := s.gens.push gs }) :
    wpAny (model prog w) A (call (.ref 21) [.ref lg]) Q E s := by
  have X' := X.keeps F.keep
  have hgl := T.g.keeps F.keep
  have hcm : mg "CHAR_MAX" = some (.int 127 189) := mg_of X T.g rfl
  have hmC : mainGlobals < s.heap.objs.size := hgl.lt
  have hlC : lg < s.heap.objs.size := by obtain ⟨o, e, _⟩ := hl; exact Heap.lt_size e
  refine wpAny_call (codeAny_call_generator (body := gB) hroom (X' 21 _ rfl) rfl rfl rfl rfl (codeRec_of X' rfl) ?_)
  refine BindsTo.of_eq (binds := [("grouping", .ref lg)]) rfl _ _ _ _ ?_
  refine wpAny_newFunctionEnv (by decide) (locs rfl) (fun h₁ hns hs₁ => ?_)
  have k₁ : ∀ b o, s.heap.get? b = some o → h₁.get? b = some o := fun b o e => hs₁.extBut b o (Nat.ne_of_lt (Heap.lt_size e)) (Heap.get?_push_of_some _ e)
  have z₁ : h₁.objs.size = s.heap.objs.size + 1 := by rw [hs₁.1, Heap.size_push]
  refine ⟨(T.nolimit.keeps F.keep).keeps k₁, ?_⟩
  dsimp only
  rw [z₁]
  refine hQ _ _ _ rfl (fun b o e => Heap.get?_push_of_some _ (k₁ b o e)) (by rw [Heap.size_push, z₁]) (fun A' hA' => ?_)
  refine ⟨by rw [← z₁]; exact ⟨_, _, _, Heap.get?_push_size _ rfl, rfl, rfl, rfl⟩, ((T.nolimit.keeps F.keep).keeps k₁).keeps fun b o e => Heap.get?_push_of_some _ e, _, Array.getElem?_push_size .., fun s'' hal => ⟨rfl, ?_⟩⟩
  rw [Nat.sub_zero]
  refine seg_start hA' hN (Nat.ne_of_lt hlC) (Nat.ne_of_lt hmC) hgr hcm h0 ((hns.push _).at' fun o e => hal _ o (.inl rfl) e) rfl ((hl.at fun o e => Heap.get?_push_of_some _ (k₁ _ o e)).at fun o e => hal _ o (.inr (.inl rfl)) e)
    ((hgl.keeps fun b o e => Heap.get?_push_of_some _ (k₁ b o e)).at' fun o e => hal _ o (.inr (.inr (.inl rfl))) e)
end
end Mine
/- _law_told: its contract -/
namespace Mine
theorem allBare_push {gs : Array GenState} {x : GenState} (h : AllBare gs) (hx : x.bare = true) : AllBare (gs.push x) := fun y hy => by
  rcases Array.mem_push.mp hy with hy | rfl
  · exact h y hy
  · exact hx
theorem unpackItems_x {prog : Program} {w : World} {A : Around} {E : Value → Shared → Prop} {s : Shared} {t : Addr} {items : Array Value} {n : Nat} {Q : List Value → Shared → Prop} (ht : IsTup s.heap t items)
    (hh : A.handled = none) (hn : n = items.size) (h : ∀ h', (∀ b o, s.heap.get? b = some o → h'.get? b = some o) → Q items.toList { s with heap := h' }) : wpAny (model prog w) A (unpackItems (.ref t) n none) Q E s := by
  subst hn
  exact unpackItems_tuple hh ht fun h' he => h h' fun b o e => he b o (Nat.ne_of_lt (Heap.lt_size e)) e
theorem told05 {prog : Program} {w : World} {A A₀ : Around} {E : Value → Shared → Prop} {s : Shared} {h₀ base : Heap} {L : Addr} {m mg mb : Str → Option Value} {news : List (Addr × Obj)} {p : Program} {loose : List Str} {mean : ExcName → Option Value} {Q : Value → Shared → Prop} {env : Env} {outer : List Env}
    {lg : Addr} {vs : List Value} {gr : List Int} {ep n : Nat} {tn : Tok}
    (B : Below A₀ base outer h₀) (F : Fr h₀ L s.heap m) (X₀ : (Mine.hd05.heap_39 w.params).In h₀) (N : News h₀ L s.heap news) (T : Top p loose mean mg mb h₀) (hA : A.frames = some (env :: outer)) (hf : env.frame = some L) (hke : env.scope.kind = .function)
    (hroom : A.depth + 1 < recursionLimit) (hh : A.handled = none) (hD : (lg, listOf (List.toArray vs) ep) ∈ news) (hgr : IntsAre vs gr) (h0 : gr.head? ≠ some 0) (hn : 0 < n) (hn' : n ≤ 1000)
    (hQ : ∀ s' D acc ep', s'.os = s.os → (AllBare s.gens → AllBare s'.gens) → Fr h₀ L s'.heap m → News h₀ L s'.heap ((D, listOf (List.toArray acc) ep') :: news) → IntsAre acc (toldFrom gr 0 0 n) → Q (.ref D) s') :
    wpAny (model prog w) A (call (.ref 28) [.ref lg, .int (n : Int) tn]) Q E s := by
  refine wpAny_call (code_def (K := Mine.hd05.heap_39 w.params) B F X₀ N T hA hf hke rfl rfl (by omega) (BindsTo.of_eq rfl) (locs rfl) ?_ rfl rfl rfl (by decide))
  intro g L' h₁ FG F' N' B' X' T'
  dsimp only
  refine wpAny_execs_cons (Assign_Tuple_swapped (Tuple_ (args_cons (List_ (args_nil ?_)))))
  refine newList_K F' N' (fun P h₂ F₂ N₂ hP => ?_)
  refine args_cons (wpAny_Constant_int (args_nil ?_))
  refine newTuple_N F₂ N₂ (fun h₃ F₃ N₃ => ?_)
  have hhD : ∀ e, (A.deeper e).handled = none := fun _ => hh
  refine unpackItems_x ⟨_, (N₃ _ (.head _)).1, rfl, _, rfl⟩ (hhD _) rfl (fun h₄ st₄ => ?_)
  have F₄ := fr_stays F₃ st₄
  have N₄ := news_stays N₃ st₄
  refine assignInOrder_cons (bindName_ (storeX_L (cl := []) F₄ N₄ (fun h₅ F₅ N₅ => ?_)))
  refine assignInOrder_cons (bindName_ (storeX_L (cl := []) F₅ N₅ (fun h₆ F₆ N₆ => assignInOrder_nil ?_)))
  have N₆' : News g L' h₆ ((P, listOf (List.toArray []) 0) :: news) := fun q hq => N₆ q (.tail _ hq)
  refine wpAny_execs_cons (wpAny_For (Call_ (nameX_B (cl := []) F₆ X' (topRead_of T') rfl boot_zip (by decide) ?_)) (by intro _; rfl))
  refine PyProof.Rows.callWith_type1 (args_cons (Call_ (nameX_B (cl := []) F₆ X' (topRead_of T') rfl boot_range (by decide) ?_)))
  refine PyProof.Rows.callWith_type1 (args_cons (nameX_L (cl := []) F₆ rfl (args_nil ?_)))
  refine call_range_1 ?_
  have F₇ := F₆.push { cls := .type "range", data := .fields #[.int 0 (s.toks + 2 + 1 + 1 + 1), .int (n : Int) tn, .int 1 (s.toks + 2 + 1 + 1 + 1 + 1)] }
  have N₇ := news_stays N₆' (fun b o e => Heap.get?_push_of_some { cls := .type "range", data := .fields #[.int 0 (s.toks + 2 + 1 + 1 + 1), .int (n : Int) tn, .int 1 (s.toks + 2 + 1 + 1 + 1 + 1)] } e)
  have R₇ := IsRange.new h₆ 0 (n : Int) 1 (s.toks + 2 + 1 + 1 + 1) tn (s.toks + 2 + 1 + 1 + 1 + 1)
  generalize hh7 : h₆.push { cls := .type "range", data := .fields #[.int 0 (s.toks + 2 + 1 + 1 + 1), .int (n : Int) tn, .int 1 (s.toks + 2 + 1 + 1 + 1 + 1)] } = h₇ at F₇ N₇ R₇
  have hst : ∀ (tk : Nat), ({ s with heap := h₇, toks := tk } : Shared) = { s with heap := h₆.push { cls := .type "range", data := .fields #[.int 0 (s.toks + 2 + 1 + 1 + 1), .int (n : Int) tn, .int 1 (s.toks + 2 + 1 + 1 + 1 + 1)] }, toks := tk } := fun _ => by rw [hh7]
  refine Eq.mpr (congrArg _ (hst _).symm) ?_
  have hl₇ : h₇.IsList lg vs.toArray := News.isList N₇ (.tail _ hD)
  refine args_cons (Call_ (nameX_K (cl := []) F₇ X' (topRead_of T') rfl ?_))
  refine callWith_K X' (by rfl) (args_cons (nameX_L (cl := []) F₇ rfl (args_nil ⟨X'.keeps F₇.keep, ?_⟩)))
  refine gen_call (s := { s with heap := h₇, toks := _ }) F₇ X' T' (show A.depth + 1 < _ from hroom) hl₇ hgr h0 hn (fun h₈ tk gs hb st₈ sz₈ G₈ => args_nil ?_)
  refine call_zip_rg (by omega) (st₈ _ _ R₇) (G₈ A hh).1 (fun h₉ hz hTI hTO hri sz₉ st₉ => wpAny_pyIter_zip hz ?_)
  dsimp only at sz₈ sz₉ st₈ st₉ hz hTI hTO hri ⊢
  have lt7 : ∀ {b : Addr} {o : Obj}, h₇.get? b = some o → b < h₇.objs.size := fun e => Heap.lt_size e
  have hL7 : L' < h₇.objs.size := F₇.ns.lt
  have hP7 : P < h₇.objs.size := Heap.lt_size (N₇ _ (.head _)).1
  have hlg7 : lg < h₇.objs.size := Heap.lt_size (N₇ _ (.tail _ hD)).1
  have hg7 : mainGlobals < h₇.objs.size := (T'.g.keeps F₇.keep).lt
  obtain ⟨mc, hmc, hmcn⟩ := T'.nolimit
  have hs7 : cStatics < h₇.objs.size := (hmc.keeps F₇.keep).lt
  have gG : mainGlobals < g.objs.size := T'.g.lt
  have sG : cStatics < g.objs.size := hmc.lt
  have aL : g.objs.size ≤ L' := F₇.above
  have nP : g.get? P = none := (N₇ _ (.head _)).2.2
  have st79 : ∀ b o, h₇.get? b = some o → h₉.get? b = some o := fun b o e => st₉ b o (st₈ b o e)
  have F₉ := fr_stays F₇ st79
  have N₉ := news_stays N₇ st79
  have hPg : P ≠ mainGlobals := fun e => by
    obtain ⟨o, _, _, ho, _⟩ := T'.g
    rw [e] at nP; rw [nP] at ho; cases ho
  have hPs : P ≠ cStatics := fun e => by
    obtain ⟨o, _, _, ho, _⟩ := hmc
    rw [e] at nP; rw [nP] at ho; cases ho
  have zd : ZD (h₈.objs.size + 3) (h₈.objs.size + 1) (h₈.objs.size + 2) h₈.objs.size (h₇.objs.size + 1) h₇.objs.size lg := by
    rw [sz₈]
    refine ⟨?_, ?_, ?_, ?_, ?_, ?_, ?_, ?_, ?_, ?_, ?_, ?_, ?_, ?_, hlg7, hg7, hs7⟩ <;> first | (show @Ne Nat _ _; omega) | (show @LT.lt Nat _ _ _; omega)
  refine told_loop (s := { s with heap := h₉, gens := s.gens.push gs, toks := tk }) (N := n) (gr := gr) (a := h₇.objs.size + 1) (gi := s.gens.size) (C := h₇.objs.size) (lg := lg) (g := g) (news := news) (hhD _) hroom hn' zd hL7 hP7 (fun q hq => Heap.lt_size (N₇ _ (.tail _ hq)).1) (fun q hq => Nat.ne_of_lt (hP q hq))
    (fun e => (N₇ _ (.tail _ hD)).2.1 e.symm) (Nat.ne_of_gt (Nat.lt_of_lt_of_le gG aL)) (Nat.ne_of_gt (Nat.lt_of_lt_of_le sG aL)) (fun e => Nat.lt_irrefl _ (e ▸ hP _ hD)) hPg hPs (m := _) F₉ N₉ (if_pos rfl) ((if_neg (by decide)).trans (if_pos rfl)) ⟨hz, hTI, ⟨_, _, hTO⟩, ?_, fun _ => ?_⟩ ?_
  · simpa using hri
  · exact (G₈ ((A.deeper _).in1) hh).keeps (wr := []) (tk := tk) (fun b o _ e => st₉ b o e) (fun b hb => nomatch hb)
  · intro s' m' acc ep' F' N' hI h1 hd ho hgo
    dsimp only
    refine wpAny_execs_cons (wpAny_Return_some (nameX_L (cl := []) F' h1 ?_))
    refine leaveK_ F' N' fun F'' N'' => ?_
    exact hQ s' P acc ep' ho (fun hb0 => hgo.bare (allBare_push hb0 hb)) F'' N'' hI
end Mine
/- lists of ints: slices, sums, the last item; a comprehension over a range -/
namespace Mine
/-- the partial sums -/
def sumsOf (ns : List Int) : List Int := (List.range ns.length).map fun k => (ns.take (k + 1)).sum
theorem sumsOf_length (ns : List Int) : (sumsOf ns).length = ns.length := by simp [sumsOf]
def lastI (ns : List Int) : Int := ns.getD (ns.length - 1) 0
theorem sumsOf_last {ns : List Int} (h : ns ≠ []) : lastI (sumsOf ns) = ns.sum := by
  have hp : 0 < ns.length := List.length_pos_iff.mpr h
  unfold lastI
  rw [sumsOf_length, List.getD_eq_getElem?_getD]
  unfold sumsOf
  rw [List.getElem?_map, List.getElem?_range (by omega)]
  simp only [Option.map_some, Option.getD_some]
  rw [List.take_of_length_le (by omega)]

theorem keeps_refl' (s : Shared) : Keeps s s := ⟨s.heap, s.toks, rfl, fun _ _ e => e⟩

section
variable {prog : Program} {w : World} {A : Around} {E : Value → Shared → Prop} {s : Shared}

theorem list_slice_stays {value slice : Expr} {l : Addr} {items : Array Value} {vl vu : Value} {lo hi : Option Int} {Q : Value → Shared → Prop}
    (hl : s.heap.IsList l items) (pl : IsPart vl lo) (pu : IsPart vu hi)
    (h : ∀ D h', (∀ b o, s.heap.get? b = some o → h'.get? b = some o) → s.heap.get? D = none → h'.get? D = some (listOf (slicePick items lo hi none) 0) → Q (.ref D) { s with heap := h' })
    (hsz : items.size ≤ sizeLine)
    (hs : subscripted slice false (.ref l) (.ref s.heap.objs.size) = operate [.ref s.heap.objs.size, .ref l] (getItem (.ref l) (.ref s.heap.objs.size)) := by with_unfolding_all rfl)
    (ht : ∀ r, letTemporaryGo value (.ref l) r = pure () := by intro _; with_unfolding_all rfl) :
    wpAny (model prog w) A (subscriptTail value slice (.ref l) (.ref s.heap.objs.size)) Q E { s with heap := s.heap.push { cls := .type "slice", data := .fields #[vl, vu, .none] } } := by
  refine subscriptTail_ops (Heap.IsList.typeIs (s := { s with heap := s.heap.push { cls := .type "slice", data := .fields #[vl, vu, .none] } }) (hl.push _)) list_getitem_lookup
    (wpAny_getItem_list_slice (hl.push _) (Heap.IsSliceOf.new ..) pl pu .none (by simp) ?_ hsz) hs ht
  exact h _ _ (fun b o e => Heap.get?_push_of_some _ (Heap.get?_push_of_some _ e)) (fresh_size (by rw [Heap.size_push]; exact Nat.le_succ _)) (Heap.get?_push_size _ rfl)

theorem sum_stays {l : Addr} {vs : List Value} {ns : List Int} {Q : Value → Shared → Prop} (hh : A.handled = none) (hl : s.heap.IsList l vs.toArray) (hi : IntsAre vs ns)
    (h : ∀ h' tk t', (∀ b o, s.heap.get? b = some o → h'.get? b = some o) → Q (.int ns.sum t') { s with heap := h', toks := tk }) : wpAny (model prog w) A (call (.builtin "sum") [.ref l]) Q E s := by
  obtain ⟨xs, hx⟩ := hi.allInts.items
  have hl' : s.heap.IsList l (intItems xs) := hx ▸ hl
  refine sum_intListG hh hl' fun h' tk t' hk => ?_
  have e1 : ns = xs.toList.map (·.1) := by
    rw [← nums_intItems, ← hx]
    exact (show numsOf vs.toArray.toList = ns from hi.numsOf).symm
  have e2 : preSum (numAt xs) xs.size = ns.sum := by
    rw [preSum_eq, List.take_of_length_le (by simp), e1]
  rw [e2]
  exact h h' tk t' hk

theorem ints_getD {vs : List Value} {ns : List Int} (h : IntsAre vs ns) : ∀ {i : Nat}, i < ns.length → ∃ t, vs[i]? = some (.int (ns.getD i 0) t) := by
  induction h with
  | nil => intro i hi; simp at hi
  | cons n t r ih =>
    intro i hi
    cases i with
    | zero => exact ⟨t, rfl⟩
    | succ i =>
      obtain ⟨u, e⟩ := ih (i := i) (by simpa using hi)
      exact ⟨u, by simpa using e⟩

/-- xs[-1] -/
theorem item_last {value slice : Expr} {l : Addr} {vs : List Value} {ns : List Int} {u : Tok} {Q : Value → Shared → Prop} (hl : s.heap.IsList l vs.toArray) (hi : IntsAre vs ns) (hne : ns ≠ []) (hsz : ns.length < 2 ^ 62)
    (h : ∀ t, Q (.int (lastI ns) t) s)
    (hs : subscripted slice false (.ref l) (.int (-1) u) = operate [.ref l, .int (-1) u] (getItem (.ref l) (.int (-1) u)) := by with_unfolding_all rfl)
    (hg : ∀ r, letTemporaryGo value (.ref l) r = pure () := by intro _; with_unfolding_all rfl) :
    wpAny (model prog w) A (subscriptTail value slice (.ref l) (.int (-1) u)) Q E s := by
  have hp : 0 < ns.length := List.length_pos_iff.mpr hne
  have hvl : vs.length = ns.length := hi.length
  obtain ⟨t, e⟩ := ints_getD hi (i := ns.length - 1) (by omega)
  refine subscriptTail_builtin hl.typeIs slot_list_getitem.lookup (wpAny_getItem_list_neg (x := .int (lastI ns) t) hl (by omega) (by simp; omega) (by omega) ?_ (h t)) hs hg
  rw [List.size_toArray, hvl, show ((-1 : Int) + (ns.length : Int)).toNat = ns.length - 1 by omega]
  simpa [lastI] using e
/-- xs[k] -/
theorem item_at {value slice : Expr} {l : Addr} {vs : List Value} {ns : List Int} {k : Int} {u : Tok} {Q : Value → Shared → Prop} (hl : s.heap.IsList l vs.toArray) (hi : IntsAre vs ns) (h0 : 0 ≤ k) (h1 : k < ns.length) (hsz : ns.length < 2 ^ 62)
    (h : ∀ t, Q (.int (ns.getD k.toNat 0) t) s)
    (hs : subscripted slice false (.ref l) (.int k u) = operate [.ref l, .int k u] (getItem (.ref l) (.int k u)) := by with_unfolding_all rfl)
    (hg : ∀ r, letTemporaryGo value (.ref l) r = pure () := by intro _; with_unfolding_all rfl) :
    wpAny (model prog w) A (subscriptTail value slice (.ref l) (.int k u)) Q E s := by
  obtain ⟨t, e⟩ := ints_getD hi (i := k.toNat) (by omega)
  exact item_listL hl h0 (by omega) e (h t) hs hg

/-- values paired with the ints that f tells of the place -/
theorem ints_of_paired {f : Int → Int} : ∀ {n : Nat} {vs ys : List Value} {a : Int}, vs.length = n → (∀ j v, vs[j]? = some v → ∃ t, v = Value.int (a + (j : Nat) * 1) t) →
    Paired (fun v y => ∃ k t u, v = .int k t ∧ y = .int (f k) u) vs ys → IntsAre ys ((List.range n).map fun (i : Nat) => f (a + (i : Int)))
  | 0, [], _, _, _, _, .nil => .nil
  | n + 1, v :: vs, y :: ys, a, hl, h, .cons hy r => by
    obtain ⟨t, e⟩ := h 0 v rfl
    obtain ⟨k, t', u, e', rfl⟩ := hy
    rw [e] at e'
    cases e'
    have r' := ints_of_paired (f := f) (n := n) (vs := vs) (a := a + 1) (by simpa using hl) (fun j u hu => by
      obtain ⟨t, e⟩ := h (j + 1) u (by simpa using hu)
      refine ⟨t, e.trans ?_⟩
      congr 1
      omega) r
    rw [List.range_succ_eq_map, List.map_cons, List.map_map]
    have e0 : a + ((0 : Nat) : Int) * 1 = a + ((0 : Nat) : Int) := by omega
    rw [e0]
    refine .cons _ _ ?_
    have e : ((fun (i : Nat) => f (a + (i : Int))) ∘ Nat.succ) = fun (i : Nat) => f (a + 1 + (i : Int)) := by funext i; simp; congr 1; omega
    rw [e]
    exact r'
end
end Mine
/- _law_stands: its contract -/
namespace Mine
def standsB (place : Int) (ns es : List Int) : Bool := (sumsOf ns).any (· == place) || (decide (es.take 1 = [0]) && (decide (0 < place - ns.sum) && ((place - ns.sum).fmod (lastI ns) == 0)))
def stB : List Stmt := fnBody PySem.Challenge.pw_dm0204_05 5
def stS : Scope := fnScope PySem.Challenge.pw_dm0204_05 5
abbrev stE (L f : Addr) (cd : Value) : Env := envOfC "_law_stands" stS L f cd

section
variable {prog : Program} {w : World} {A : Around} {E : Value → Shared → Prop} {s : Shared} {h₀ : Heap} {L fa : Addr} {m mg mb : Str → Option Value} {cd : Value} {Q : Flow → Shared → Prop} {p : Program} {loose : List Str} {news : List (Addr × Obj)}
  {ls : Addr} {vs : List Value} {ns : List Int} {el : Nat} {oc : Obj}

/-- sums = [sum(sizes[:k + 1]) for k in range(len(sizes))] -/
theorem st_sums (F : Fr h₀ L s.heap m) (N : News h₀ L s.heap news) (X : (Mine.hd05.heap_39 w.params).In h₀) (T : TopRead p loose mg mb h₀)
    (hc : (L + 1, oc) ∈ news) (hd : oc.data = .cell (some (.ref ls))) (hR : (ls, listOf (List.toArray vs) el) ∈ news) (hI : IntsAre vs ns) (hx : ns.length ≤ 1000) (hh : A.handled = none)
    (k : ∀ h' tk D hs m' ep, Fr h₀ L h' m' → News h₀ L h' ((D, listOf (List.toArray hs) ep) :: news) → IntsAre hs (sumsOf ns) → m' "sums" = some (.ref D) → (∀ y, y ≠ ("sums" : Str) → m' y = m y) → wpAny (model prog w) A (execs (stB.drop 1) (stE L fa cd)) Q E { s with heap := h', toks := tk }) :
    wpAny (model prog w) A (execs stB (stE L fa cd)) Q E s := by
  have hsl : sizeLine = 16777216 := rfl
  have hvl : vs.length = ns.length := hI.length
  refine wpAny_execs_cons ?_
  refine wpAny_Assign_ListComp_free (cl := [("sizes", L + 1)]) (fun _ => true) (fun v y => ∃ k t u, v = .int k t ∧ y = .int ((ns.take (k.toNat + 1)).sum) u) rfl rfl (by decide) rfl (by decide) rfl rfl rfl ?_
  refine Call_ (nameX_B F X T rfl boot_range (by decide) ?_)
  refine PyProof.Rows.callWith_type1 (args_cons (Call_ (nameX_B F X T rfl boot_len (by decide) ?_)))
  refine callWith_builtin1 (args_cons (nameX_C N rfl hc hd (args_nil ?_)))
  refine len_list (News.isList N hR) (by simp only [List.size_toArray]; omega) (args_nil ?_)
  rw [List.size_toArray, hvl]
  refine range_iter (N := ns.length) (by omega) (fun I h₁ tk₁ st₁ hI0 hI2 it₁ => ?_)
  refine ⟨I, _, _, _, _, _, m, rfl, walks_lt (Walks.range hh I 0 1 ns.length), by omega, it₁, ?_, ?_, (F.ns.keeps st₁), ⟨?_, ?_⟩, ?_⟩
  · intro b hb
    rcases List.mem_cons.mp hb with rfl | hb
    · exact hI2
    · cases hb
  · intro hb
    rcases List.mem_cons.mp hb with hb | hb
    · obtain ⟨oL, _, _, hL, _⟩ := F.ns
      have hb' : L = I := hb
      rw [hb', hI0] at hL
      cases hL
    · cases hb
  · intro C i v s₃ m₃ E' hC hv hn hvx kp _
    exact wpAny_tests_nil ⟨rfl, keeps_refl' _⟩
  · intro C i v s₃ m₃ E' hC hv _ hn hvx kp _
    obtain ⟨hlt, t, rfl⟩ := hv
    have st₃ : ∀ b o, s.heap.get? b = some o → s₃.heap.get? b = some o := stays_but st₁ (in_one hI0) kp
    have F₃ : Fr h₀ C s₃.heap m₃ := ⟨hn, fun b o e => st₃ b o (F.keep b o e), Nat.le_trans F.above (Nat.le_trans (Nat.le_of_lt (by obtain ⟨oL, _, _, hL, _⟩ := F.ns; exact Heap.lt_size (st₁ _ _ hL))) hC)⟩
    have hcell : s₃.heap.get? (L + 1) = some oc := st₃ _ _ (N _ hc).1
    have hls : s₃.heap.IsList ls vs.toArray := ⟨_, st₃ _ _ (N _ hR).1, rfl, _, rfl⟩
    refine Call_ (Name_function_global rfl rfl (loadGlobal_builtin (T.g.keeps F₃.keep) (mg_none_of X T.g rfl) (T.b.keeps F₃.keep) ((T.builtins _ (by decide)).trans boot_sum) ?_))
    refine callWith_builtin1 (args_cons (Subscript_ (wpAny_Name (wpAny_loadName_cell rfl rfl rfl ⟨oc, hcell, hd⟩ ?_))))
    refine wpAny_Slice (evalPart_none_step (evalPart_some_step (wpAny_BinOp (wpAny_Name (wpAny_loadName_local rfl rfl hn hvx (wpAny_Constant_int (PyProof.Rows.add_int (evalPart_none_step ?_))))))))
    refine list_slice_stays (s := { s₃ with toks := _ }) hls .none (.int _ _) (fun D h₄ st₄ hD0 hD => args_nil ?_) (by simp only [List.size_toArray]; omega)
    have hI4 := kmk_upto (y := 0 + (i : Int) * 1 + 1) hI (by omega)
    have hl4 : h₄.IsList D (slicePick vs.toArray none (some (0 + (i : Int) * 1 + 1)) none).toList.toArray := by rw [Array.toArray_toList]; exact ⟨_, hD, rfl, _, rfl⟩
    refine sum_stays (s := { s₃ with heap := h₄, toks := _ }) hh hl4 hI4 (fun h₅ tk₅ t₅ st₅ => ⟨⟨_, _, t₅, rfl, ?_⟩, h₅, tk₅, rfl, fun b o e => st₅ b o (st₄ b o e)⟩)
    rw [show (0 + (i : Int) * 1 + 1).toNat = (0 + (i : Int) * 1).toNat + 1 by omega]
  · intro D h' tk ys us hD hlD hpD hlen' hP hF hn hk
    obtain ⟨ep, hpD⟩ := hpD
    have st' : ∀ b o, b ≠ L → s.heap.get? b = some o → h'.get? b = some o := fun b o hb e => hk b o hb (fun hb => by rcases List.mem_cons.mp hb with rfl | hb; (rw [hI0] at e; cases e); cases hb) (st₁ b o e)
    have hDs : s.heap.get? D = none := by
      cases e : s.heap.get? D with
      | none => rfl
      | some o => have := st₁ D o e; rw [hD] at this; cases this
    have hbase : ∀ b o, h₀.get? b = some o → b ≠ L := fun b o e hb => absurd (Heap.lt_size e) (Nat.not_lt.mpr (hb ▸ F.above))
    have F' : Fr h₀ L h' (fun z => if z = Str.ofString "sums" then some (Value.ref D) else m z) := ⟨hn, fun b o e => st' b o (hbase b o e) (F.keep b o e), F.above⟩
    have N' : News h₀ L h' news := fun q hq => ⟨st' _ _ (N q hq).2.1 (N q hq).1, (N q hq).2.1, (N q hq).2.2⟩
    rw [List.filter_eq_self.mpr (fun _ _ => rfl)] at hF
    have hI' := ints_of_paired (f := fun k => (ns.take (k.toNat + 1)).sum) (a := 0) hlen' (fun j v hj => (hP j v hj).2) hF
    have e : ((List.range ns.length).map fun (i : Nat) => (fun k : Int => (ns.take (k.toNat + 1)).sum) (0 + (i : Int))) = sumsOf ns := by
      unfold sumsOf
      refine List.map_congr_left fun i _ => ?_
      dsimp only
      rw [show (0 + (i : Int)).toNat = i by omega]
    rw [e] at hI'
    refine k h' tk D ys.toList _ ep F' (news_add F N' (by rw [Array.toArray_toList]; exact hpD) hDs) hI' rfl (fun y hy => if_neg hy)

theorem stands_body {D le : Addr} {hs us : List Value} {es : List Int} {ep ee : Nat} {place : Int} {tp : Tok} (F : Fr h₀ L s.heap m) (N : News h₀ L s.heap ((D, listOf (List.toArray hs) ep) :: news)) (X : (Mine.hd05.heap_39 w.params).In h₀) (T : TopRead p loose mg mb h₀)
    (hc : (L + 1, oc) ∈ news) (hd : oc.data = .cell (some (.ref ls))) (hR : (ls, listOf (List.toArray vs) el) ∈ news) (hI : IntsAre vs ns) (hx : ns.length ≤ 1000) (hne : ns ≠ []) (hl0 : lastI ns ≠ 0)
    (hRe : (le, listOf (List.toArray us) ee) ∈ news) (hIe : IntsAre us es) (hxe : es.length ≤ 1000) (hu : A.units + 64 < cLine)
    (hS : IntsAre hs (sumsOf ns)) (hm : m "sums" = some (.ref D)) (hp : m "place" = some (.int place tp)) (he : m "end" = some (.ref le))
    (k : ∀ h' tk m', Fr h₀ L h' m' → News h₀ L h' news → Q (.ret (.bool (standsB place ns es))) { s with heap := h', toks := tk }) :
    wpAny (model prog w) A (execs (stB.drop 1) (stE L fa cd)) Q E s := by
  have hsl : sizeLine = 16777216 := rfl
  have hne' : sumsOf ns ≠ [] := fun e => by have := sumsOf_length ns; rw [e] at this; exact hne (List.eq_nil_of_length_eq_zero this.symm)
  -- beyond = place - sums[-1]
  refine wpAny_execs_cons (wpAny_Assign_Name (wpAny_BinOp (nameX_L F hp (Subscript_ (nameX_L F hm (wpAny_UnaryOp (wpAny_Constant_int (PyProof.Rows.neg_int ?_))))))))
  refine item_last (s := { s with toks := _ }) (News.isList N (.head _)) hS hne' (by rw [sumsOf_length]; omega) (fun t => PyProof.Rows.sub_int ?_)
  rw [sumsOf_last hne]
  refine storeX_L F N (fun h₁ F₁ N₁ => ?_)
  refine wpAny_execs_cons (wpAny_Return_some (BoolOp_or (wpAny_Compare1 (nameX_L F₁ ((if_neg (by decide)).trans hp) (nameX_L F₁ ((if_neg (by decide)).trans hm) ?_)))))
  refine in_list_ints (News.isList N₁ (.head _)) hS (wpAny_truthy_bool ?_)
  cases ha : (sumsOf ns).any (· == place) with
  | true =>
    simp only [if_true]
    have := k h₁ (s.toks + 1 + 1 + 1 + 1) _ F₁ (fun q hq => N₁ q (.tail _ hq))
    unfold standsB at this
    rw [ha, Bool.true_or] at this
    exact this
  | false =>
    simp only [Bool.false_eq_true, if_false]
    refine BoolOp_one (BoolOp_and (wpAny_Compare1 (Subscript_ (nameX_L F₁ ((if_neg (by decide)).trans he) ?_))))
    refine wpAny_Slice (evalPart_none_step (evalPart_some_step (wpAny_Constant_int (evalPart_none_step ?_))))
    refine kmk_slice (s := { s with heap := h₁, toks := _ }) F₁ N₁ (News.isList N₁ (.tail _ hRe)) .none (.int _ _) (fun D₂ h₂ F₂ N₂ l₂ => ?_) rfl (fun _ => rfl) (by simp only [List.size_toArray, hIe.length]; omega)
    have hI2 := kmk_upto (y := 1) hIe (by omega)
    refine List_ (args_cons (wpAny_Constant_int (args_nil ?_)))
    refine newList_N F₂ N₂ (fun h₃ F₃ N₃ => ?_)
    have hL3 : h₃.IsList D₂ (slicePick us.toArray none (some 1) none).toList.toArray := by rw [Array.toArray_toList]; exact News.isList N₃ (.tail _ (.head _))
    refine eq_intsK hL3 hI2 (News.isList N₃ (.head _)) (.cons 0 _ .nil) hu (wpAny_truthy_bool ?_)
    have N₃' : News h₀ L h₃ news := fun q hq => N₃ q (.tail _ (.tail _ (.tail _ hq)))
    cases hb : decide (es.take (1 : Int).toNat = [0]) with
    | false =>
      simp only [Bool.false_eq_true, if_false]
      have := k h₃ (s.toks + 1 + 1 + 1 + 1 + 1 + 1) _ F₃ N₃'
      unfold standsB at this
      rw [ha, show decide (es.take 1 = [0]) = false from hb, Bool.false_and, Bool.false_or] at this
      exact this
    | true =>
      simp only [if_true]
      refine BoolOp_and (wpAny_Compare1 (nameX_L F₃ (if_pos rfl) (wpAny_Constant_int (PyProof.Rows.gt_int (wpAny_truthy_bool ?_)))))
      cases hg : decide (0 < place - ns.sum) with
      | false =>
        simp only [Bool.false_eq_true, if_false]
        have := k h₃ (s.toks + 1 + 1 + 1 + 1 + 1 + 1 + 1) _ F₃ N₃'
        unfold standsB at this
        rw [ha, show decide (es.take 1 = [0]) = true from hb, hg, Bool.false_and, Bool.true_and, Bool.false_or] at this
        exact this
      | true =>
        simp only [if_true]
        refine BoolOp_one (wpAny_Compare1 (wpAny_BinOp (nameX_L F₃ (if_pos rfl) (Subscript_ (nameX_C N₃' rfl hc hd (wpAny_UnaryOp (wpAny_Constant_int (PyProof.Rows.neg_int ?_))))))))
        refine item_last (s := { s with heap := h₃, toks := _ }) (News.isList N₃' hR) hI hne (by omega) (fun t => mod_int' hl0 ?_)
        refine wpAny_Constant_int (PyProof.Rows.eq_int ?_)
        have := k h₃ (s.toks + 1 + 1 + 1 + 1 + 1 + 1 + 1 + 1 + 1 + 1 + 1) _ F₃ N₃'
        unfold standsB at this
        rw [ha, show decide (es.take 1 = [0]) = true from hb, hg, Bool.true_and, Bool.true_and, Bool.false_or] at this
        exact this
end

theorem stands05 {prog : Program} {w : World} {A A₀ : Around} {E : Value → Shared → Prop} {s : Shared} {h₀ base : Heap} {L : Addr} {m mg mb : Str → Option Value} {news : List (Addr × Obj)} {p : Program} {loose : List Str} {mean : ExcName → Option Value} {Q : Value → Shared → Prop} {env : Env} {outer : List Env}
    {ls le : Addr} {vs us : List Value} {ns es : List Int} {el ee : Nat} {place : Int} {tp : Tok}
    (B : Below A₀ base outer h₀) (F : Fr h₀ L s.heap m) (X₀ : (Mine.hd05.heap_39 w.params).In h₀) (N : News h₀ L s.heap news) (T : Top p loose mean mg mb h₀) (hA : A.frames = some (env :: outer)) (hf : env.frame = some L) (hke : env.scope.kind = .function)
    (hroom : A.depth < recursionLimit) (hh : A.handled = none) (hu : ∀ e, (A.deeper e).units + 64 < cLine)
    (hR : (ls, listOf (List.toArray vs) el) ∈ news) (hI : IntsAre vs ns) (hx : ns.length ≤ 1000) (hne : ns ≠ []) (hl0 : lastI ns ≠ 0)
    (hRe : (le, listOf (List.toArray us) ee) ∈ news) (hIe : IntsAre us es) (hxe : es.length ≤ 1000)
    (hQ : ∀ h' tk, Fr h₀ L h' m → News h₀ L h' news → Q (.bool (standsB place ns es)) { s with heap := h', toks := tk }) :
    wpAny (model prog w) A (call (.ref 33) [.int place tp, .ref ls, .ref le]) Q E s := by
  refine wpAny_call (code_defC (K := Mine.hd05.heap_39 w.params) B F X₀ N T hA hf hke rfl rfl hroom (BindsTo.of_eq rfl) rfl (by decide) ?_ rfl rfl rfl)
  intro g L' h₁ tk₁ cells FG F' N' C' B' X' T' hlt
  obtain ⟨oc, rfl, hd⟩ := CellsAre.one C'
  have hc : (L' + 1, oc) ∈ [(L' + 1, oc)] ++ news := .head _
  have up : ∀ q ∈ news, q ∈ [(L' + 1, oc)] ++ news := fun q hq => .tail _ hq
  refine st_sums (fa := 33) F' N' X' (topRead_of T') hc hd (up _ hR) hI hx hh ?_
  intro h₂ tk₂ D hs m₂ ep F₂ N₂ hS e1 e2
  refine stands_body (s := { s with heap := h₂, toks := tk₂ }) F₂ N₂ X' (topRead_of T') hc hd (up _ hR) hI hx hne hl0 (up _ hRe) hIe hxe (hu _) hS e1 ((e2 _ (by decide)).trans rfl) ((e2 _ (by decide)).trans rfl) ?_
  intro h₃ tk₃ m₃ F₃ N₃
  refine leaveK_ F₃ N₃ fun F₄ N₄ => hQ h₃ tk₃ F₄ (fun q hq => N₄ q (up q hq))
end Mine
/- the plain side of 05 -/
namespace Mine

/-- the first place at which two rising lists part -/
def fdiff : List Int → List Int → Option Int
  | [], [] => none
  | x :: _, [] => some x
  | [], y :: _ => some y
  | x :: r, y :: t => if x = y then fdiff r t else some (min x y)
theorem fdiff_none : ∀ {l r : List Int}, fdiff l r = none → l = r
  | [], [], _ => rfl
  | _ :: _, [], h => by simp [fdiff] at h
  | [], _ :: _, h => by simp [fdiff] at h
  | x :: r, y :: t, h => by
    unfold fdiff at h
    split at h
    · rename_i e; rw [e, fdiff_none h]
    · cases h
theorem fdiff_self : ∀ (l : List Int), fdiff l l = none
  | [] => rfl
  | x :: r => by unfold fdiff; rw [if_pos rfl]; exact fdiff_self r
theorem fdiff_some : ∀ {l r : List Int} {d : Int}, l.Pairwise (· < ·) → r.Pairwise (· < ·) → fdiff l r = some d → (decide (d ∈ l) ≠ decide (d ∈ r)) ∧ ∀ p, p < d → (p ∈ l ↔ p ∈ r)
  | [], [], _, _, _, h => by simp [fdiff] at h
  | x :: r, [], d, hl, _, h => by
    simp only [fdiff, Option.some.injEq] at h
    subst h
    refine ⟨by simp, fun p hp => ?_⟩
    simp only [List.mem_cons, List.not_mem_nil, iff_false, not_or]
    exact ⟨by omega, fun hm => by have := (List.pairwise_cons.mp hl).1 p hm; omega⟩
  | [], y :: t, d, _, hr, h => by
    simp only [fdiff, Option.some.injEq] at h
    subst h
    refine ⟨by simp, fun p hp => ?_⟩
    simp only [List.mem_cons, List.not_mem_nil, false_iff, not_or]
    exact ⟨by omega, fun hm => by have := (List.pairwise_cons.mp hr).1 p hm; omega⟩
  | x :: r, y :: t, d, hl, hr, h => by
    have hl' := List.pairwise_cons.mp hl
    have hr' := List.pairwise_cons.mp hr
    unfold fdiff at h
    split at h
    · rename_i e
      subst e
      obtain ⟨h1, h2⟩ := fdiff_some hl'.2 hr'.2 h
      have hd : d ≠ x := by
        rintro rfl
        refine h1 ?_
        have a : d ∉ r := fun hm => by have := hl'.1 d hm; omega
        have b : d ∉ t := fun hm => by have := hr'.1 d hm; omega
        simp [a, b]
      refine ⟨by simpa [hd] using h1, fun p hp => ?_⟩
      simp only [List.mem_cons]
      rw [h2 p hp]
    · rename_i e
      simp only [Option.some.injEq] at h
      subst h
      have fr : ∀ p, p ≤ x → p ∉ r := fun p hp hm => by have := hl'.1 p hm; omega
      have ft : ∀ p, p ≤ y → p ∉ t := fun p hp hm => by have := hr'.1 p hm; omega
      rcases Int.lt_or_gt_of_ne e with hlt | hgt
      · rw [Int.min_eq_left (by omega)]
        refine ⟨?_, fun p hp => ?_⟩
        · simp [e, ft x (by omega)]
        · simp only [List.mem_cons, fr p (by omega), ft p (by omega), or_false]
          omega
      · rw [Int.min_eq_right (by omega)]
        refine ⟨?_, fun p hp => ?_⟩
        · simp [Ne.symm e, fr y (by omega)]
        · simp only [List.mem_cons, fr p (by omega), ft p (by omega), or_false]
          omega
theorem fdiff_take : ∀ {c : Nat} {l r : List Int} {d : Int}, fdiff (l.take c) (r.take c) = some d → fdiff l r = some d
  | 0, _, _, _, h => by simp [fdiff] at h
  | c + 1, [], [], _, h => by simp [fdiff] at h
  | c + 1, x :: r, [], d, h => by simpa [fdiff] using h
  | c + 1, [], y :: t, d, h => by simpa [fdiff] using h
  | c + 1, x :: r, y :: t, d, h => by
    simp only [List.take_succ_cons, fdiff] at h ⊢
    split at h
    · rename_i e; rw [if_pos e]; exact fdiff_take h
    · rename_i e; rw [if_neg e]; exact h
theorem fdiff_mem : ∀ {l r : List Int} {d : Int}, fdiff l r = some d → d ∈ l ∨ d ∈ r
  | [], [], _, h => by simp [fdiff] at h
  | x :: r, [], d, h => by simp only [fdiff, Option.some.injEq] at h; subst h; simp
  | [], y :: t, d, h => by simp only [fdiff, Option.some.injEq] at h; subst h; simp
  | x :: r, y :: t, d, h => by
    unfold fdiff at h
    split at h
    · rcases fdiff_mem h with h | h
      · exact .inl (.tail _ h)
      · exact .inr (.tail _ h)
    · simp only [Option.some.injEq] at h
      subst h
      rcases Int.le_total x y with h | h
      · rw [Int.min_eq_left h]; exact .inl (.head _)
      · rw [Int.min_eq_right h]; exact .inr (.head _)

/-- what the generator tells, in places -/
def G (ns : List Int) (b : Bool) (j : Nat) : Option Int := if j < ns.length then ns[j]? else if b then some (lastI ns) else none
def Sized (ns : List Int) : Prop := ns ≠ [] ∧ ∀ x ∈ ns, 1 ≤ x ∧ x ≤ 3
def IsEnd (e : List Int) : Prop := e = [0] ∨ e = [127] ∨ e = [] ∨ e = [0, 9] ∨ e = [127, 9]

theorem tell_end {e : List Int} (he : IsEnd e) (x : Int) (j : Nat) : tell e (some x) j = if decide (e.take 1 = [0]) then some x else none := by
  rcases he with rfl | rfl | rfl | rfl | rfl <;> simp [tell]
theorem tell_app {e : List Int} (he : IsEnd e) : ∀ {ns : List Int} {last : Option Int} {x : Int} {j : Nat}, (∀ x ∈ ns, 1 ≤ x ∧ x ≤ 3) → (ns = [] → last = some x) → (ns ≠ [] → x = lastI ns) →
    tell (ns ++ e) last j = if j < ns.length then ns[j]? else if decide (e.take 1 = [0]) then some x else none
  | [], last, x, j, _, h0, _ => by rw [h0 rfl, List.nil_append, tell_end he]; simp
  | y :: ns, last, x, j, h, _, h1 => by
    have hy := h y (.head _)
    rw [List.cons_append]
    unfold tell
    rw [if_neg (by omega), if_neg (by omega)]
    cases j with
    | zero => simp
    | succ j =>
      dsimp only
      rw [tell_app he (x := x) (fun z hz => h z (.tail _ hz)) (fun e => ?_) (fun e => ?_)]
      · simp
      · subst e; rw [h1 (by simp)]; rfl
      · rw [h1 (by simp)]
        unfold lastI
        have hp : 0 < ns.length := List.length_pos_iff.mpr e
        rw [List.length_cons, show ns.length + 1 - 1 = (ns.length - 1) + 1 by omega, List.getD_cons_succ]
theorem tell_eq {ns e : List Int} (hs : Sized ns) (he : IsEnd e) (j : Nat) : tell (ns ++ e) none j = G ns (decide (e.take 1 = [0])) j := by
  rw [tell_app he (x := lastI ns) hs.2 (fun h => absurd h hs.1) (fun _ => rfl)]; rfl

theorem lastI_mem {ns : List Int} (h : ns ≠ []) : lastI ns ∈ ns := by
  have hp : 0 < ns.length := List.length_pos_iff.mpr h
  unfold lastI
  rw [List.getD_eq_getElem?_getD, List.getElem?_eq_getElem (by omega), Option.getD_some]
  exact List.getElem_mem _
theorem G_in {ns : List Int} {b : Bool} {j : Nat} {x : Int} (hs : Sized ns) (h : G ns b j = some x) : 1 ≤ x ∧ x ≤ 3 := by
  unfold G at h
  split at h
  · exact hs.2 x (List.mem_of_getElem? h)
  · split at h
    · cases h; exact hs.2 _ (lastI_mem hs.1)
    · cases h
theorem G_beyond {ns : List Int} {b : Bool} {i j : Nat} (hi : ns.length ≤ i) (hj : ns.length ≤ j) : G ns b i = G ns b j := by
  simp only [G, Nat.not_lt.mpr hi, Nat.not_lt.mpr hj, if_false]

/-- the sums along a row -/
def run (f : Nat → Option Int) : Int → Nat → Nat → List Int
  | _, _, 0 => []
  | tot, j, n + 1 => match f j with
    | none => []
    | some x => (tot + x) :: run f (tot + x) (j + 1) n
theorem toldFrom_run (gr : List Int) (f : Nat → Option Int) (h : ∀ j, tell gr none j = f j) : ∀ (n : Nat) (tot : Int) (j : Nat), toldFrom gr tot j n = run f tot j n
  | 0, _, _ => rfl
  | n + 1, tot, j => by
    unfold toldFrom run
    rw [h j]
    cases f j with
    | none => rfl
    | some x => simp only [toldFrom_run gr f h n]
theorem run_take (f : Nat → Option Int) : ∀ (c n : Nat) (tot : Int) (j : Nat), c ≤ n → (run f tot j n).take c = run f tot j c
  | 0, _, _, _, _ => by simp [run]
  | c + 1, 0, _, _, h => by omega
  | c + 1, n + 1, tot, j, h => by
    unfold run
    cases f j with
    | none => rfl
    | some x => simp only [List.take_succ_cons]; rw [run_take f c n _ _ (by omega)]
theorem run_length (f : Nat → Option Int) : ∀ (n : Nat) (tot : Int) (j : Nat), (run f tot j n).length ≤ n
  | 0, _, _ => by simp [run]
  | n + 1, tot, j => by
    unfold run
    cases f j with
    | none => simp
    | some x => simp only [List.length_cons]; have := run_length f n (tot + x) (j + 1); omega
theorem run_rises {f : Nat → Option Int} (hf : ∀ j x, f j = some x → 1 ≤ x ∧ x ≤ 3) : ∀ (n : Nat) (tot : Int) (j : Nat), (run f tot j n).Pairwise (· < ·) ∧ ∀ y ∈ run f tot j n, tot < y ∧ y ≤ tot + 3 * n
  | 0, _, _ => by simp [run]
  | n + 1, tot, j => by
    unfold run
    cases e : f j with
    | none => simp
    | some x =>
      have hx := hf j x e
      obtain ⟨h1, h2⟩ := run_rises hf n (tot + x) (j + 1)
      refine ⟨List.pairwise_cons.mpr ⟨fun y hy => (h2 y hy).1, h1⟩, fun y hy => ?_⟩
      rcases List.mem_cons.mp hy with rfl | hy
      · omega
      · have := h2 y hy; omega
/-- two rows whose first c sums are the same are the same -/
theorem run_same {f g : Nat → Option Int} {c : Nat} (hf : ∀ i, c ≤ i → f i = f c) (hg : ∀ i, c ≤ i → g i = g c) : ∀ (n : Nat) (tot : Int) (j r : Nat), j + n = c → run f tot j (n + 1) = run g tot j (n + 1) → run f tot j (n + 1 + r) = run g tot j (n + 1 + r)
  | 0, tot, j, r, hj, h => by
    obtain rfl : j = c := by omega
    have e : f j = g j := by
      unfold run at h
      cases e1 : f j <;> cases e2 : g j <;> rw [e1, e2] at h <;> simp [run] at h <;> simp
      omega
    have go : ∀ (r : Nat) (tot : Int) (i : Nat), j ≤ i → run f tot i r = run g tot i r := by
      intro r
      induction r with
      | zero => intros; rfl
      | succ r ih =>
        intro tot i hi
        unfold run
        rw [hf i hi, hg i hi, e]
        cases g j with
        | none => rfl
        | some x => simp only [ih _ _ (Nat.le_succ_of_le hi)]
    exact go _ _ _ (Nat.le_refl _)
  | n + 1, tot, j, r, hj, h => by
    rw [show n + 1 + 1 + r = (n + 1 + r) + 1 by omega]
    unfold run at h ⊢
    cases e1 : f j <;> cases e2 : g j <;> rw [e1, e2] at h <;> simp at h <;> simp
    rename_i x y
    obtain ⟨h1, h2⟩ := h
    have : x = y := by omega
    subst this
    exact ⟨rfl, run_same hf hg n (tot + x) (j + 1) r (by omega) h2⟩
/-- the sums of a row, by the row itself -/
def sumsR : Int → List Int → List Int
  | _, [] => []
  | tot, x :: r => (tot + x) :: sumsR (tot + x) r
theorem sumsR_eq : ∀ (tot : Int) (ns : List Int), sumsR tot ns = (List.range ns.length).map fun k => tot + (ns.take (k + 1)).sum
  | _, [] => rfl
  | tot, x :: r => by
    rw [sumsR, sumsR_eq (tot + x) r, List.length_cons, List.range_succ_eq_map, List.map_cons, List.map_map]
    congr 1
    · simp
    · refine List.map_congr_left fun k _ => ?_
      simp only [Function.comp, Nat.succ_eq_add_one, List.take_succ_cons, List.sum_cons]
      omega
theorem sumsR_zero (ns : List Int) : sumsR 0 ns = sumsOf ns := by
  rw [sumsR_eq]
  unfold sumsOf
  refine List.map_congr_left fun k _ => ?_
  omega
theorem run_row {f : Nat → Option Int} : ∀ (ns : List Int) (tot : Int) (j n : Nat), (∀ i, i < ns.length → f (j + i) = ns[i]?) → run f tot j (ns.length + n) = sumsR tot ns ++ run f (tot + ns.sum) (j + ns.length) n
  | [], tot, j, n, _ => by simp [sumsR]
  | x :: r, tot, j, n, h => by
    have h0 : f j = some x := by simpa using h 0 (by simp)
    rw [List.length_cons, show r.length + 1 + n = (r.length + n) + 1 by omega]
    have hu : run f tot j (r.length + n + 1) = (tot + x) :: run f (tot + x) (j + 1) (r.length + n) := by
      rw [run, h0]
    rw [hu, run_row r (tot + x) (j + 1) n (fun i hi => by have := h (i + 1) (by simpa using hi); rw [show j + 1 + i = j + (i + 1) by omega, this]; simp), sumsR, List.sum_cons, List.cons_append, show tot + x + r.sum = tot + (x + r.sum) by omega, show j + 1 + r.length = j + (r.length + 1) by omega]
theorem run_none {f : Nat → Option Int} {tot : Int} {j n : Nat} (h : f j = none) : run f tot j n = [] := by
  cases n with
  | zero => rfl
  | succ n => unfold run; rw [h]
theorem run_const {f : Nat → Option Int} {x : Int} : ∀ (n : Nat) (tot : Int) (j : Nat), (∀ i, j ≤ i → f i = some x) → run f tot j n = (List.range n).map fun i => tot + ((i : Nat) + 1) * x
  | 0, _, _, _ => rfl
  | n + 1, tot, j, h => by
    unfold run
    rw [h j (Nat.le_refl _)]
    dsimp only
    rw [run_const n (tot + x) (j + 1) (fun i hi => h i (by omega)), List.range_succ_eq_map, List.map_cons, List.map_map]
    congr 1
    · simp
    · refine List.map_congr_left fun k _ => ?_
      simp only [Function.comp, Nat.succ_eq_add_one]
      rw [Int.natCast_add, Int.add_mul ((k : Int) + ((1 : Nat) : Int)) 1 x]
      simp only [Int.natCast_one]
      rw [Int.one_mul, Int.add_assoc, Int.add_comm x]

theorem sum_ge : ∀ {ns : List Int}, (∀ x ∈ ns, 1 ≤ x ∧ x ≤ 3) → (ns.length : Int) ≤ ns.sum
  | [], _ => by simp
  | x :: r, h => by
    have h1 := h x (.head _)
    have h2 := sum_ge (ns := r) fun y hy => h y (.tail _ hy)
    simp only [List.length_cons, List.sum_cons]
    omega

def standsG (place : Int) (ns : List Int) (b : Bool) : Bool := (sumsOf ns).any (· == place) || (b && (decide (0 < place - ns.sum) && ((place - ns.sum).fmod (lastI ns) == 0)))
theorem stands_run {ns : List Int} {b : Bool} {M : Nat} {place : Int} (hs : Sized ns) (hM : ns.length ≤ M) (hp : place < M) : standsG place ns b = decide (place ∈ run (G ns b) 0 0 M) := by
  obtain ⟨n, rfl⟩ : ∃ n, M = ns.length + n := ⟨M - ns.length, by omega⟩
  have hl := hs.2 _ (lastI_mem hs.1)
  have hge := sum_ge hs.2
  rw [run_row ns 0 0 n (fun i hi => by rw [Nat.zero_add]; simp [G, hi]), sumsR_zero, Int.zero_add, Nat.zero_add]
  rw [Bool.eq_iff_iff, decide_eq_true_eq, List.mem_append]
  unfold standsG
  rw [Bool.or_eq_true, List.any_eq_true]
  have h1 : (∃ x, x ∈ sumsOf ns ∧ (x == place) = true) ↔ place ∈ sumsOf ns := by
    constructor
    · rintro ⟨x, hx, e⟩
      rw [beq_iff_eq] at e; rw [← e]; exact hx
    · intro h; exact ⟨place, h, by simp⟩
  rw [h1]
  refine or_congr Iff.rfl ?_
  cases b with
  | false =>
    rw [run_none (by simp [G])]
    simp
  | true =>
    rw [run_const n ns.sum ns.length (x := lastI ns) (fun i hi => by simp [G, Nat.not_lt.mpr hi])]
    simp only [Bool.true_and, Bool.and_eq_true, decide_eq_true_eq, beq_iff_eq, List.mem_map, List.mem_range]
    constructor
    · rintro ⟨h2, h3⟩
      have hdvd : lastI ns ∣ (place - ns.sum) := Int.dvd_of_fmod_eq_zero h3
      obtain ⟨k, hk⟩ := hdvd
      have hk1 : 1 ≤ k := by
        rcases Int.lt_or_le k 1 with h | h
        · have : lastI ns * k ≤ 0 := Int.mul_nonpos_of_nonneg_of_nonpos (by omega) (by omega)
          omega
        · exact h
      have hk2 : k ≤ lastI ns * k := by
        have := Int.mul_le_mul_of_nonneg_right (c := k) hl.1 (by omega)
        rw [Int.one_mul] at this; exact this
      refine ⟨(k - 1).toNat, by omega, ?_⟩
      rw [show (((k - 1).toNat : Nat) : Int) + 1 = k by omega, Int.mul_comm, ← hk]
      omega
    · rintro ⟨i, hi, rfl⟩
      have e : ns.sum + ((i : Int) + 1) * lastI ns - ns.sum = ((i : Int) + 1) * lastI ns := by omega
      rw [e]
      refine ⟨Int.mul_pos (by omega) (by omega), ?_⟩
      rw [Int.fmod_eq_emod_of_nonneg _ (by omega)]
      exact Int.mul_emod_left _ _

/-- what the first loop answers -/
def toldV (l r : List Int) (c : Nat) : Option Int := ((List.range c).find? fun k => decide ((l.drop k).take 1 ≠ (r.drop k).take 1)).bind fun k => ((l.drop k).take 1 ++ (r.drop k).take 1).min?
theorem find_range_succ (p : Nat → Bool) (c : Nat) : (List.range (c + 1)).find? p = if p 0 then some 0 else ((List.range c).find? fun k => p (k + 1)).map (· + 1) := by
  rw [List.range_succ_eq_map, List.find?_cons]
  cases p 0 with
  | true => rfl
  | false =>
    simp only [Bool.false_eq_true, if_false]
    rw [List.find?_map]
    rfl
theorem toldV_fdiff : ∀ (c : Nat) (l r : List Int), l.length ≤ c → r.length ≤ c → toldV l r c = fdiff l r
  | 0, l, r, hl, hr => by
    obtain rfl := List.eq_nil_of_length_eq_zero (Nat.le_zero.mp hl)
    obtain rfl := List.eq_nil_of_length_eq_zero (Nat.le_zero.mp hr)
    rfl
  | c + 1, l, r, hl, hr => by
    unfold toldV
    rw [find_range_succ]
    match l, r with
    | [], [] =>
      have := toldV_fdiff c [] [] (by simp) (by simp)
      simp [fdiff]
    | x :: l, [] => simp [fdiff]
    | [], y :: r => simp [fdiff]
    | x :: l, y :: r =>
      by_cases e : x = y
      · subst e
        have := toldV_fdiff c l r (by simpa using hl) (by simpa using hr)
        unfold toldV at this
        simp only [fdiff, if_true, ← this]
        simp only [List.drop_zero, List.take_succ_cons, List.take_zero, ne_eq, not_true_eq_false, decide_false, Bool.false_eq_true, if_false, List.drop_succ_cons]
        cases (List.range c).find? fun k => decide ¬ (List.take 1 (List.drop k l) = List.take 1 (List.drop k r)) with
        | none => rfl
        | some k => simp
      · simp [fdiff, e, List.min?]

/-- what the second loop answers -/
def dueV (p : Int → Bool) (n : Nat) : Option Int := ((List.range n).find? fun (i : Nat) => p (1 + (i : Int))).map fun (i : Nat) => 1 + (i : Int)
theorem dueV_none {p : Int → Bool} {n : Nat} (h : ∀ q : Int, 1 ≤ q → q < 1 + n → p q = false) : dueV p n = none := by
  unfold dueV
  rw [List.find?_eq_none.mpr]
  · rfl
  · intro i hi
    rw [List.mem_range] at hi
    rw [h _ (by omega) (by omega)]
    simp
theorem dueV_some {p : Int → Bool} {n : Nat} {d : Int} (h1 : 1 ≤ d) (h2 : d < 1 + n) (hd : p d = true) (h : ∀ q, 1 ≤ q → q < d → p q = false) : dueV p n = some d := by
  unfold dueV
  have : (List.range n).find? (fun (i : Nat) => p (1 + (i : Int))) = some (d - 1).toNat := by
    rw [List.find?_range_eq_some]
    refine ⟨?_, ?_, ?_⟩
    · rw [show 1 + (((d - 1).toNat : Nat) : Int) = d by omega]; exact hd
    · rw [List.mem_range]; omega
    · intro i hi
      rw [h _ (by omega) (by omega)]; rfl
  rw [this]
  simp only [Option.map_some]
  congr 1
  omega

theorem plain05 {ns ms : List Int} {b b' : Bool} (hs : Sized ns) (hs' : Sized ms) (hlen : ms.length ≤ ns.length + 1) :
    toldV (run (G ns b) 0 0 (ns.length + 4)) (run (G ms b') 0 0 (ns.length + 4)) (ns.length + 4) = dueV (fun q => standsG q ns b != standsG q ms b') (3 * ns.length + 19) := by
  have hM : ns.length ≤ 3 * ns.length + 20 := by omega
  have hM' : ms.length ≤ 3 * ns.length + 20 := by omega
  rw [toldV_fdiff _ _ _ (run_length _ _ _ _) (run_length _ _ _ _), ← run_take (G ns b) (ns.length + 4) (3 * ns.length + 20) 0 0 (by omega), ← run_take (G ms b') (ns.length + 4) (3 * ns.length + 20) 0 0 (by omega)]
  have r1 := run_rises (fun j x => G_in (b := b) (j := j) hs) (3 * ns.length + 20) 0 0
  have r2 := run_rises (fun j x => G_in (b := b') (j := j) hs') (3 * ns.length + 20) 0 0
  cases e : fdiff ((run (G ns b) 0 0 (3 * ns.length + 20)).take (ns.length + 4)) ((run (G ms b') 0 0 (3 * ns.length + 20)).take (ns.length + 4)) with
  | none =>
    have e1 := fdiff_none e
    rw [run_take _ _ _ _ _ (by omega), run_take _ _ _ _ _ (by omega)] at e1
    have e2 := run_same (c := ns.length + 3) (fun i hi => G_beyond (by omega) (by omega)) (fun i hi => G_beyond (by omega) (by omega)) (ns.length + 3) 0 0 (2 * ns.length + 16) (by omega) e1
    rw [show ns.length + 3 + 1 + (2 * ns.length + 16) = 3 * ns.length + 20 by omega] at e2
    refine (dueV_none fun q h1 h2 => ?_).symm
    rw [stands_run hs hM (by omega), stands_run hs' hM' (by omega), e2]
    simp
  | some d =>
    have e1 := fdiff_take e
    obtain ⟨h1, h2⟩ := fdiff_some r1.1 r2.1 e1
    have hd : 0 < d ∧ d ≤ 3 * (ns.length + 4 : Nat) := by
      rw [run_take _ _ _ _ _ (by omega), run_take _ _ _ _ _ (by omega)] at e
      rcases fdiff_mem e with h | h
      · have := (run_rises (fun j x => G_in (b := b) (j := j) hs) (ns.length + 4) 0 0).2 d h; omega
      · have := (run_rises (fun j x => G_in (b := b') (j := j) hs') (ns.length + 4) 0 0).2 d h; omega
    refine (dueV_some (by omega) (by omega) ?_ fun q q1 q2 => ?_).symm
    · rw [stands_run hs hM (by omega), stands_run hs' hM' (by omega)]
      simpa using h1
    · rw [stands_run hs hM (by omega), stands_run hs' hM' (by omega)]
      have := h2 q q2
      simp [this]
end Mine
/- for loops over a range or a list, with break and return, in any frame -/
namespace Mine
/-- a closed box about a proposition: the elaborator does not look into it -/
structure Go (P : Prop) : Prop where
  go : P
def rObj (x left : Int) : Obj := { cls := .type "range_iterator", data := .fields #[rawInt x, rawInt left, rawInt 1] }
/-- what may differ between two states of the law -/
def Sim (s s' : Shared) : Prop := s'.os = s.os ∧ (AllBare s.gens → AllBare s'.gens)
theorem Sim.refl (s : Shared) : Sim s s := ⟨rfl, id⟩
theorem Sim.trans {s s' s'' : Shared} (a : Sim s s') (b : Sim s' s'') : Sim s s'' := ⟨b.1.trans a.1, fun h => b.2 (a.2 h)⟩
theorem Sim.set {s s' : Shared} (a : Sim s s') (h : Heap) (t : Nat) : Sim s { s' with heap := h, toks := t } := a

theorem fr_but {h₀ h h' : Heap} {L I : Addr} {m : Str → Option Value} {news : List (Addr × Obj)} {o : Obj} (F : Fr h₀ L h m) (N : News h₀ L h ((I, o) :: news)) (k : ∀ b o, b ∉ [I] → h.get? b = some o → h'.get? b = some o) : Fr h₀ L h' m := by
  have z := N _ (.head _)
  refine ⟨F.ns.at' fun o e => k _ o (fun hb => z.2.1 (List.mem_singleton.mp hb).symm) e, fun b o e => k b o (fun hb => ?_) (F.keep b o e), F.above⟩
  rw [List.mem_singleton] at hb; subst hb
  rw [z.2.2] at e; cases e
theorem news_but {h₀ h h' : Heap} {L I : Addr} {news : List (Addr × Obj)} {o o' : Obj} (N : News h₀ L h ((I, o) :: news)) (hn : ∀ q ∈ news, q.1 ≠ I) (k : ∀ b o, b ∉ [I] → h.get? b = some o → h'.get? b = some o) (hI : h'.get? I = some o') : News h₀ L h' ((I, o') :: news) := by
  intro q hq
  rcases List.mem_cons.mp hq with rfl | hq
  · exact ⟨hI, (N _ (.head _)).2⟩
  · exact ⟨k _ _ (fun hb => hn q hq (List.mem_singleton.mp hb)) (N q (.tail _ hq)).1, (N q (.tail _ hq)).2⟩

section
variable {prog : Program} {w : World} {A : Around} {E : Value → Shared → Prop} {s : Shared} {h₀ : Heap} {L fa : Addr} {m : Str → Option Value} {cn : Str} {cs : Scope} {cd : Value} {cl : List (Str × Addr)} {news : List (Addr × Obj)} {x : Str} {px : Pos} {body : List Stmt} {I : Addr} {R : Result → Shared → Prop}

theorem range_for {N : Nat} {a : Int} (hh : A.handled = none) (J : Nat → (Str → Option Value) → List (Addr × Obj) → Prop) (F : Fr h₀ L s.heap m) (N0 : News h₀ L s.heap ((I, rObj a (N : Int)) :: news)) (hIn : ∀ q ∈ news, q.1 ≠ I) (h0 : J 0 m news)
    (step : ∀ j s' m' news' t, j < N → J j m' news' → (∀ q ∈ news', q.1 ≠ I) → Sim s s' → Fr h₀ L s'.heap (fun y => if y = x then some (.int (a + (j : Nat)) t) else m' y) → News h₀ L s'.heap ((I, rObj (a + ((j + 1 : Nat) : Int)) ((N : Int) - ((j + 1 : Nat) : Int))) :: news') →
      Go (wpAny (model prog w) A (execs body (envX cn cs L fa cd cl)) (fun f s₃ => match f with
        | .next | .cont => ∃ m₃ news₃, J (j + 1) m₃ news₃ ∧ (∀ q ∈ news₃, q.1 ≠ I) ∧ Sim s s₃ ∧ Fr h₀ L s₃.heap m₃ ∧ News h₀ L s₃.heap ((I, rObj (a + ((j + 1 : Nat) : Int)) ((N : Int) - ((j + 1 : Nat) : Int))) :: news₃)
        | .brk => R (.ok .next) s₃
        | .ret v => R (.ok (.ret v)) s₃) (notedBy (model prog w) A (envX cn cs L fa cd cl) fun e s' => R (.error e) s') s'))
    (done : ∀ s' m' news', J N m' news' → Sim s s' → Fr h₀ L s'.heap m' → News h₀ L s'.heap news' → Go (R (.ok .next) s'))
    (hk : cs.kind = .function := by rfl) (hx : (envX cn cs L fa cd cl).kindOf x = some .local := by rfl) :
    codeAny (model prog w) A (.forLoop (.Name x px) (.ref I) body [] (envX cn cs L fa cd cl)) R s := by
  have W := Walks.range (prog := prog) (w := w) hh I a 1 N
  refine codeAny_forLoop_any (fun n s' => ∃ j m' news', n = N + 1 - j ∧ j ≤ N ∧ J j m' news' ∧ (∀ q ∈ news', q.1 ≠ I) ∧ Sim s s' ∧ Fr h₀ L s'.heap m' ∧ News h₀ L s'.heap ((I, rObj (a + (j : Nat)) ((N : Int) - (j : Nat))) :: news')) ?_ (N + 1)
    ⟨0, m, news, rfl, Nat.zero_le _, h0, hIn, Sim.refl _, F, by simpa using N0⟩
  rintro n s' ⟨j, m', news', rfl, hj, hJ, hn, hs, F', N'⟩
  have st : IsRangeIter s'.heap I (a + (j : Nat) * 1) ((N : Int) - (j : Nat)) 1 := by
    rw [Int.mul_one]; exact (N' _ (.head _)).1
  rcases Nat.lt_or_eq_of_le hj with hlt | rfl
  · refine W.item j s' _ _ hlt st (fun v h₁ tk₁ hv st₁ k₁ => ?_)
    obtain ⟨t, rfl⟩ := hv
    have st₁' : h₁.get? I = some (rObj (a + ((j + 1 : Nat) : Int)) ((N : Int) - ((j + 1 : Nat) : Int))) := by
      have h9 : IsRangeIter h₁ I (a + ((j + 1 : Nat) : Int) * 1) ((N : Int) - ((j + 1 : Nat) : Int)) 1 := st₁
      rw [Int.mul_one] at h9; exact h9
    have F₁ := fr_but F' N' k₁
    have N₁ := news_but N' hn k₁ st₁'
    dsimp only
    refine wpAny_of_eq (rfl : letOwnedTupleGo (.Name x px) (.ref I) (.int (a + (j : Nat) * 1) t) = pure ()) ?_
    refine wpAny_assign_Name ?_
    refine storeX_L (s := { s' with heap := h₁, toks := tk₁ }) F₁ N₁ (fun h₂ F₂ N₂ => ?_) hk hx
    rw [Int.mul_one] at F₂
    have g := (step j { s' with heap := h₂, toks := tk₁ + 1 } m' news' t hlt hJ hn hs F₂ N₂).go
    refine wpAny_mono g (fun f s₃ h₃ => ?_) fun _ _ z => z
    cases f with
    | next =>
      obtain ⟨m₃, news₃, a1, a2, a3, a4, a5⟩ := h₃
      exact ⟨N + 1 - (j + 1), by omega, j + 1, m₃, news₃, rfl, hlt, a1, a2, a3, a4, a5⟩
    | cont =>
      obtain ⟨m₃, news₃, a1, a2, a3, a4, a5⟩ := h₃
      exact ⟨N + 1 - (j + 1), by omega, j + 1, m₃, news₃, rfl, hlt, a1, a2, a3, a4, a5⟩
    | brk => exact h₃
    | ret v => exact h₃
  · refine W.done s' _ _ st (fun h₁ tk₁ k₁ => ?_)
    dsimp only
    refine wpAny_execs_nil ?_
    have F₁ := fr_but F' N' k₁
    have N₁ : News h₀ L h₁ news' := fun q hq => ⟨k₁ _ _ (fun hb => hn q hq (List.mem_singleton.mp hb)) (N' q (.tail _ hq)).1, (N' q (.tail _ hq)).2⟩
    exact (done { s' with heap := h₁, toks := tk₁ } m' news' hJ hs F₁ N₁).go

/-- an iterator of a list at place j -/
def lObj (l : Addr) (j : Nat) : Obj := { cls := .type "list_iterator", data := .fields #[.ref l, rawInt j] }

/-- range(a, a + N), its iterator, onto the ledger -/
theorem range_iter_N {a : Int} {N : Nat} {t u : Tok} {Q : Value → Shared → Prop} (F : Fr h₀ L s.heap m) (N0 : News h₀ L s.heap news) (ha : -(2 ^ 62) ≤ a) (ha' : a < 2 ^ 62) (hN : a + (N : Int) < 2 ^ 62)
    (k : ∀ I h' tk, Fr h₀ L h' m → News h₀ L h' ((I, rObj a (N : Int)) :: news) → (∀ q ∈ news, q.1 ≠ I) → Q (.ref I) { s with heap := h', toks := tk }) :
    wpAny (model prog w) A (call (.type "range") [.int a t, .int (a + (N : Int)) u]) (fun xv s₁ => wpAny (model prog w) A (pyIter xv) Q E s₁) E s := by
  refine call_range_2 (wpAny_pyIter_range (IsRange.new _ _ _ _ _ _ _) (small_one ha ha' (by omega) hN) ?_)
  have e : Builtin.Range.rangeSize a (a + (N : Int)) 1 = N := by rw [rangeSize_one]; split <;> omega
  rw [e]
  have st : ∀ b o, s.heap.get? b = some o → ((s.heap.push { cls := .type "range", data := .fields #[.int a t, .int (a + (N : Int)) u, .int 1 s.toks] }).push (rObj a (N : Int))).get? b = some o := fun b o e => Heap.get?_push_of_some _ (Heap.get?_push_of_some _ e)
  refine k _ _ _ (fr_stays F st) (news_add F (news_stays N0 st) (Heap.get?_push_size _ rfl) (fresh_size (by rw [Heap.size_push]; exact Nat.le_succ _))) ?_
  intro q hq e
  have h1 := Heap.lt_size (N0 q hq).1
  rw [e, Heap.size_push] at h1
  exact Nat.lt_irrefl _ (Nat.lt_of_succ_lt h1)
/-- range(N), its iterator, onto the ledger -/
theorem range_iter_1 {N : Nat} {t : Tok} {Q : Value → Shared → Prop} (F : Fr h₀ L s.heap m) (N0 : News h₀ L s.heap news) (hN : (N : Int) < 2 ^ 62)
    (k : ∀ I h' tk, Fr h₀ L h' m → News h₀ L h' ((I, rObj 0 (N : Int)) :: news) → (∀ q ∈ news, q.1 ≠ I) → Q (.ref I) { s with heap := h', toks := tk }) :
    wpAny (model prog w) A (call (.type "range") [.int (N : Int) t]) (fun xv s₁ => wpAny (model prog w) A (pyIter xv) Q E s₁) E s := by
  refine range_iter hN (fun I h' tk st hI0 _ hit => ?_)
  have hit' : h'.get? I = some (rObj 0 (N : Int)) := by simpa [IsRangeIter, rObj] using hit
  refine k I h' tk (fr_stays F st) (news_add F (news_stays N0 st) hit' hI0) ?_
  intro q hq e
  have h1 := (N0 q hq).1
  rw [e, hI0] at h1; cases h1
end
end Mine
/- the law: numbers, first, last, one, other -/
namespace Mine
def lawB : List Stmt := fnBody PySem.Challenge.pw_dm0204_05 6
def lawS : Scope := fnScope PySem.Challenge.pw_dm0204_05 6
abbrev lawE (L fa : Addr) (cd : Value) : Env := envOf "law" lawS L fa cd
theorem same_list {α : Type} {vs us : List α} (hl : vs.length = us.length) (h : ∀ (j : Nat) (v : α), vs[j]? = some v → us[j]? = some v) : vs = us := by
  apply List.ext_getElem?
  intro j
  cases e : vs[j]? with
  | some v => exact (h j v e).symm
  | none =>
    rw [List.getElem?_eq_none_iff] at e
    exact (List.getElem?_eq_none_iff.mpr (by omega)).symm
theorem ints_map {f : Int → Int} : ∀ {vs ys : List Value} {ns : List Int}, IntsAre vs ns → Paired (fun v y => ∃ k t u, v = .int k t ∧ y = .int (f k) u) vs ys → IntsAre ys (ns.map f)
  | _, _, _, .nil, .nil => .nil
  | _, _, _, .cons n t r, .cons hy q => by
    obtain ⟨k, t', u, e, rfl⟩ := hy
    cases e
    exact .cons _ _ (ints_map r q)

section
variable {prog : Program} {w : World} {A : Around} {E : Value → Shared → Prop} {s : Shared} {h₀ : Heap} {L fa : Addr} {m mg mb : Str → Option Value} {cd : Value} {Q : Flow → Shared → Prop} {p : Program} {loose : List Str} {news : List (Addr × Obj)}

/-- numbers = script[:10] if script != [] else [2, 4] -/
theorem l5_numbers {l : Addr} {vs : List Value} {ns : List Int} (F : Fr h₀ L s.heap m) (N : News h₀ L s.heap news) (hm : m "script" = some (.ref l)) (hl : h₀.IsList l vs.toArray) (hI : IntsAre vs ns) (hlen : ns.length ≤ 63) (hu : A.units + 64 < cLine)
    (k : ∀ h' tk D us nums ep m', Fr h₀ L h' m' → News h₀ L h' ((D, listOf (List.toArray us) ep) :: news) → IntsAre us nums → nums ≠ [] → nums.length ≤ 10 → m' "numbers" = some (.ref D) → wpAny (model prog w) A (execs (lawB.drop 1) (lawE L fa cd)) Q E { s with heap := h', toks := tk }) :
    wpAny (model prog w) A (execs lawB (lawE L fa cd)) Q E s := by
  have hsl : sizeLine = 16777216 := rfl
  have hvl : vs.length = ns.length := hI.length
  refine wpAny_execs_cons (wpAny_Assign_Name (IfExp_ (wpAny_isTrue_Compare1 (nameX_L (cl := []) F hm (List_ (args_nil ?_))))))
  refine newList_N F N (fun h₁ F₁ N₁ => ?_)
  have N₁' : News h₀ L h₁ news := fun q hq => N₁ q (.tail _ hq)
  refine ne_intsK (stays_list F₁.keep hl) hI (News.isList N₁ (.head _)) .nil hu (wpAny_truthy_bool ?_)
  by_cases hne : ns = []
  · rw [decide_eq_true hne]
    simp only [Bool.not_true, Bool.false_eq_true, if_false]
    refine List_ (args_cons (wpAny_Constant_int (args_cons (wpAny_Constant_int (args_nil ?_)))))
    refine newList_N F₁ N₁' (fun h₂ F₂ N₂ => ?_)
    refine storeX_L (cl := []) F₂ N₂ (fun h₃ F₃ N₃ => ?_)
    exact k h₃ _ _ _ [2, 4] _ _ F₃ N₃ (.cons _ _ (.cons _ _ .nil)) (by simp) (by simp) (if_pos rfl)
  · rw [decide_eq_false hne]
    simp only [Bool.not_false, if_true]
    refine Subscript_ (nameX_L (cl := []) F₁ hm (wpAny_Slice (evalPart_none_step (evalPart_some_step (wpAny_Constant_int (evalPart_none_step ?_))))))
    refine kmk_slice (s := { s with heap := h₁, toks := _ }) F₁ N₁' (stays_list F₁.keep hl) .none (.int _ _) (fun D₂ h₂ F₂ N₂ _ => ?_) rfl (fun _ => rfl) (by simp only [List.size_toArray]; omega)
    have hI2 := kmk_upto (y := 10) hI (by omega)
    refine storeX_L (cl := []) F₂ N₂ (fun h₃ F₃ N₃ => ?_)
    have hp : 0 < ns.length := List.length_pos_iff.mpr hne
    refine k h₃ _ D₂ _ _ 0 _ F₃ ?_ hI2 (fun e => ?_) ?_ (if_pos rfl)
    · rw [Array.toArray_toList]; exact N₃
    · have := congrArg List.length e
      rw [List.length_take, List.length_nil, show (10 : Int).toNat = 10 from rfl] at this
      omega
    · rw [List.length_take]; exact Nat.min_le_left _ _

/-- first, last = (numbers[0], numbers[-1]) -/
theorem l5_ends {D : Addr} {us : List Value} {nums : List Int} {ep : Nat} (F : Fr h₀ L s.heap m) (N : News h₀ L s.heap ((D, listOf (List.toArray us) ep) :: news)) (hI : IntsAre us nums) (hne : nums ≠ []) (hlen : nums.length ≤ 10) (hm : m "numbers" = some (.ref D)) (hh : A.handled = none)
    (k : ∀ h' tk m' t1 t2, Fr h₀ L h' m' → News h₀ L h' ((D, listOf (List.toArray us) ep) :: news) → m' "numbers" = some (.ref D) → m' "first" = some (.int (nums.getD 0 0) t1) → m' "last" = some (.int (lastI nums) t2) → wpAny (model prog w) A (execs (lawB.drop 2) (lawE L fa cd)) Q E { s with heap := h', toks := tk }) :
    wpAny (model prog w) A (execs (lawB.drop 1) (lawE L fa cd)) Q E s := by
  have hp : 0 < nums.length := List.length_pos_iff.mpr hne
  refine wpAny_execs_cons (Assign_Tuple_swapped (Tuple_ (args_cons (Subscript_ (nameX_L (cl := []) F hm (wpAny_Constant_int ?_))))))
  refine item_at (s := { s with toks := _ }) (News.isList N (.head _)) hI (by omega) (by omega) (by omega) (fun t1 => ?_)
  refine args_cons (Subscript_ (nameX_L (cl := []) F hm (wpAny_UnaryOp (wpAny_Constant_int (PyProof.Rows.neg_int ?_)))))
  refine item_last (s := { s with toks := _ }) (News.isList N (.head _)) hI hne (by omega) (fun t2 => args_nil ?_)
  refine newTuple_N F N (fun h₁ F₁ N₁ => ?_)
  refine unpackItems_x ⟨_, (N₁ _ (.head _)).1, rfl, _, rfl⟩ hh rfl (fun h₂ st₂ => ?_)
  have F₂ := fr_stays F₁ st₂
  have N₂ := news_stays N₁ st₂
  refine assignInOrder_cons (bindName_ (storeX_L (cl := []) F₂ N₂ (fun h₃ F₃ N₃ => ?_)))
  refine assignInOrder_cons (bindName_ (storeX_L (cl := []) F₃ N₃ (fun h₄ F₄ N₄ => assignInOrder_nil ?_)))
  exact k h₄ _ _ t1 t2 F₄ (fun q hq => N₄ q (.tail _ hq)) hm rfl rfl

/-- one = [1 + x % 3 for x in numbers] -/
theorem l5_one {D : Addr} {us : List Value} {nums : List Int} {ep : Nat} (F : Fr h₀ L s.heap m) (N : News h₀ L s.heap ((D, listOf (List.toArray us) ep) :: news)) (hI : IntsAre us nums) (hlen : nums.length ≤ 10) (hm : m "numbers" = some (.ref D)) (hh : A.handled = none)
    (k : ∀ h' tk D' ys e' m', Fr h₀ L h' m' → News h₀ L h' ((D', listOf (List.toArray ys) e') :: news) → IntsAre ys (nums.map fun x => 1 + x.fmod 3) → m' "one" = some (.ref D') → (∀ y, y ≠ ("one" : Str) → m' y = m y) → wpAny (model prog w) A (execs (lawB.drop 3) (lawE L fa cd)) Q E { s with heap := h', toks := tk }) :
    wpAny (model prog w) A (execs (lawB.drop 2) (lawE L fa cd)) Q E s := by
  have hsl : sizeLine = 16777216 := rfl
  have hvl : us.length = nums.length := hI.length
  have hlD : s.heap.IsList D us.toArray := News.isList N (.head _)
  have hDlt : D < s.heap.objs.size := Heap.lt_size (N _ (.head _)).1
  refine wpAny_execs_cons ?_
  refine wpAny_Assign_ListComp_free (cl := []) (fun _ => true) (fun v y => ∃ k t u, v = .int k t ∧ y = .int (1 + k.fmod 3) u) rfl rfl (by decide) rfl (by decide) rfl rfl rfl ?_
  refine nameX_L (cl := []) F hm (wpAny_pyIter_list hlD ?_)
  refine ⟨_, _, _, _, _, _, m, rfl, Walks.list hh _ D (Nat.ne_of_lt hDlt) us.toArray, by simp only [List.size_toArray]; omega, ⟨⟨_, Heap.get?_push_size _ rfl, rfl, rfl⟩, hlD.push _⟩, ?_, ?_, (F.ns.push _), ⟨?_, ?_⟩, ?_⟩
  · intro b hb
    rw [Heap.size_push]
    rcases List.mem_cons.mp hb with rfl | hb
    · exact Nat.lt_succ_self _
    · rcases List.mem_cons.mp hb with rfl | hb
      · exact Nat.lt_succ_of_lt hDlt
      · cases hb
  · intro hb
    rcases List.mem_cons.mp hb with hb | hb
    · exact absurd F.ns.lt (by have hb' : L = s.heap.objs.size := hb; rw [hb']; exact Nat.lt_irrefl _)
    · cases hb
  · intro C i v s₃ m₃ E' hC hv hn hvx kp _
    exact wpAny_tests_nil ⟨rfl, keeps_refl' _⟩
  · intro C i v s₃ m₃ E' hC hv _ hn hvx kp _
    obtain ⟨x, t, rfl, _⟩ := ints_at hI (i := i) (v := v) (by simpa using hv)
    refine wpAny_BinOp (wpAny_Constant_int (wpAny_BinOp (wpAny_Name (wpAny_loadName_local rfl rfl hn hvx (wpAny_Constant_int (mod_int' (by decide) (PyProof.Rows.add_int ?_)))))))
    exact ⟨⟨_, _, _, rfl, rfl⟩, _, _, rfl, fun _ _ e => e⟩
  · intro D' h' tk ys ws hD' hlD' hpD hlen' hP hF hn hk
    obtain ⟨e', hpD⟩ := hpD
    have hbase : ∀ b o, h₀.get? b = some o → b ≠ L := fun b o e hb => absurd (Heap.lt_size e) (Nat.not_lt.mpr (hb ▸ F.above))
    have st' : ∀ b o, b ≠ L → s.heap.get? b = some o → h'.get? b = some o := fun b o hb e => hk b o hb (fun hb => by
      rw [List.mem_singleton] at hb; subst hb; exact Nat.lt_irrefl _ (Heap.lt_size e)) (Heap.get?_push_of_some _ e)
    have hDs : s.heap.get? D' = none := by
      cases e : s.heap.get? D' with
      | none => rfl
      | some o => cases hD'.symm.trans (Heap.get?_push_of_some _ e)
    have F' : Fr h₀ L h' (fun z => if z = Str.ofString "one" then some (Value.ref D') else m z) := ⟨hn, fun b o e => st' b o (hbase b o e) (F.keep b o e), F.above⟩
    have N' : News h₀ L h' news := fun q hq => ⟨st' _ _ (N q (.tail _ hq)).2.1 (N q (.tail _ hq)).1, (N q (.tail _ hq)).2.1, (N q (.tail _ hq)).2.2⟩
    rw [List.filter_eq_self.mpr (fun _ _ => rfl)] at hF
    have ews : ws = us := same_list (by simpa using hlen') (fun j v hj => by simpa using hP j v hj)
    rw [ews] at hF
    exact k h' tk D' ys.toList e' _ F' (news_add F N' (by rw [Array.toArray_toList]; exact hpD) hDs) (ints_map hI hF) (if_pos rfl) (fun y hy => if_neg hy)

/-- other = list(one) -/
theorem l5_other {D : Addr} {us : List Value} {one : List Int} {ep : Nat} (F : Fr h₀ L s.heap m) (N : News h₀ L s.heap ((D, listOf (List.toArray us) ep) :: news)) (X : (Mine.hd05.heap_39 w.params).In h₀) (T : TopRead p loose mg mb h₀) (hI : IntsAre us one) (hlen : one.length ≤ 10) (hm : m "one" = some (.ref D))
    (k : ∀ h' tk D' e' m', Fr h₀ L h' m' → News h₀ L h' ((D', listOf (List.toArray us) e') :: (D, listOf (List.toArray us) ep) :: news) → (∀ q ∈ (D, listOf (List.toArray us) ep) :: news, q.1 < D') → m' "other" = some (.ref D') → (∀ y, y ≠ ("other" : Str) → m' y = m y) → wpAny (model prog w) A (execs (lawB.drop 4) (lawE L fa cd)) Q E { s with heap := h', toks := tk }) :
    wpAny (model prog w) A (execs (lawB.drop 3) (lawE L fa cd)) Q E s := by
  have hsl : sizeLine = 16777216 := rfl
  have hvl : us.length = one.length := hI.length
  refine wpAny_execs_cons (wpAny_Assign_Name (Call_ (nameX_B (cl := []) F X T rfl boot_list (by decide) ?_)))
  refine PyProof.Rows.callWith_type1 (args_cons (nameX_L (cl := []) F hm (args_nil ?_)))
  refine list_copyK F N (News.isList N (.head _)) (fun D' e' h₁ F₁ N₁ lt => ?_) (by simp only [List.size_toArray]; omega)
  refine storeX_L (cl := []) F₁ N₁ (fun h₂ F₂ N₂ => ?_)
  exact k h₂ _ D' e' _ F₂ N₂ lt (if_pos rfl) (fun y hy => if_neg hy)
end
end Mine
/- the law: other turned -/
namespace Mine
theorem fmod3 (x : Int) : 0 ≤ x.fmod 3 ∧ x.fmod 3 < 3 := ⟨Int.fmod_nonneg_of_pos x (by decide), Int.fmod_lt_of_pos x (by decide)⟩
theorem sized_map {nums : List Int} (h : nums ≠ []) : Sized (nums.map fun x => 1 + x.fmod 3) := by
  refine ⟨by simpa using h, fun y hy => ?_⟩
  obtain ⟨x, _, rfl⟩ := List.mem_map.mp hy
  have := fmod3 x
  omega
theorem sized_snoc {ns : List Int} (h : Sized ns) : Sized (ns ++ [lastI ns]) := by
  refine ⟨by simp, fun y hy => ?_⟩
  rcases List.mem_append.mp hy with hy | hy
  · exact h.2 y hy
  · rw [List.mem_singleton] at hy; subst hy; exact h.2 _ (lastI_mem h.1)
theorem sized_set {ns : List Int} {j : Nat} {x : Int} (h : Sized ns) (hx : 1 ≤ x ∧ x ≤ 3) : Sized (ns.set j x) := by
  refine ⟨fun e => h.1 ?_, fun y hy => ?_⟩
  · have := congrArg List.length e
    rw [List.length_set] at this
    exact List.eq_nil_of_length_eq_zero this
  · rcases List.mem_or_eq_of_mem_set hy with hy | rfl
    · exact h.2 y hy
    · exact hx
theorem sized_take {ns : List Int} {j : Nat} (h : Sized ns) (hj : 0 < j) : Sized (ns.take j) := by
  have hp : 0 < ns.length := List.length_pos_iff.mpr h.1
  refine ⟨fun e => ?_, fun y hy => h.2 y (List.mem_of_mem_take hy)⟩
  have := congrArg List.length e
  rw [List.length_take, List.length_nil] at this
  omega

section
variable {prog : Program} {w : World} {A : Around} {E : Value → Shared → Prop} {s : Shared} {h₀ : Heap} {L fa : Addr} {m mg mb : Str → Option Value} {cd : Value} {Q : Flow → Shared → Prop} {p : Program} {loose : List Str} {news : List (Addr × Obj)}

theorem l5_turn {D : Addr} {us : List Value} {one : List Int} {ep : Nat} {last : Int} {tl : Tok} (F : Fr h₀ L s.heap m) (N : News h₀ L s.heap ((D, listOf (List.toArray us) ep) :: news)) (X : (Mine.hd05.heap_39 w.params).In h₀) (T : TopRead p loose mg mb h₀)
    (hlt : ∀ q ∈ news, q.1 < D) (hI : IntsAre us one) (hS : Sized one) (hlen : one.length ≤ 10) (hm : m "other" = some (.ref D)) (hla : m "last" = some (.int last tl))
    (k : ∀ h' tk D' ws others e' m', Fr h₀ L h' m' → News h₀ L h' ((D', listOf (List.toArray ws) e') :: news) → IntsAre ws others → Sized others → others.length ≤ one.length + 1 → m' "other" = some (.ref D') → (∀ y, y ≠ ("other" : Str) → y ≠ ("k" : Str) → m' y = m y) → Go (wpAny (model prog w) A (execs (lawB.drop 5) (lawE L fa cd)) Q E { s with heap := h', toks := tk })) :
    wpAny (model prog w) A (execs (lawB.drop 4) (lawE L fa cd)) Q E s := by
  have hsl : sizeLine = 16777216 := rfl
  have hvl : us.length = one.length := hI.length
  have hp : 0 < one.length := List.length_pos_iff.mpr hS.1
  have hnD : ∀ q ∈ news, q.1 ≠ D := fun q hq => Nat.ne_of_lt (hlt q hq)
  refine wpAny_execs_cons (wpAny_If (wpAny_isTrue_Compare1 (wpAny_BinOp (wpAny_BinOp (nameX_L (cl := []) F hla (wpAny_Constant_int (floordiv_int (by decide) (wpAny_Constant_int (mod_int' (by decide) (wpAny_Constant_int (PyProof.Rows.eq_int (wpAny_truthy_bool ?_))))))))))))
  cases h1 : ((last.fdiv 3).fmod 4 == 1) with
  | true =>
    simp only [if_true]
    refine wpAny_execs_cons (wpAny_Expr (MethodCall_ (nameX_L (cl := []) F hm ?_)))
    refine getMethod_append_N (s := { s with toks := _ }) N (.head _) (callWith_method1 (args_cons (he := by kernel_rfl) (Subscript_ (nameX_L (cl := []) F hm (wpAny_UnaryOp (wpAny_Constant_int (PyProof.Rows.neg_int ?_)))))))
    refine item_last (s := { s with toks := _ }) (News.isList N (.head _)) hI hS.1 (by omega) (fun t => args_nil ?_)
    refine append_K (s := { s with toks := _ }) F N (.head hnD) (fun h₁ F₁ N₁ => wpAny_execs_nil ?_) (by simp only [List.size_toArray]; omega)
    rw [List.push_toArray] at N₁
    dsimp only
    show wpAny (model prog w) A (execs (lawB.drop 5) (lawE L fa cd)) Q E _
    refine Go.go ?_
    exact k h₁ _ D _ _ _ _ F₁ N₁ (hI.append (.cons _ _ .nil)) (sized_snoc hS) (by simp) hm (fun _ _ _ => rfl)
  | false =>
    simp only [Bool.false_eq_true, if_false]
    refine wpAny_execs_cons (wpAny_If (wpAny_isTrue_Compare1 (wpAny_BinOp (wpAny_BinOp (nameX_L (cl := []) F hla (wpAny_Constant_int (floordiv_int (by decide) (wpAny_Constant_int (mod_int' (by decide) (wpAny_Constant_int (PyProof.Rows.eq_int (wpAny_truthy_bool ?_))))))))))))
    cases h2 : ((last.fdiv 3).fmod 4 == 2) with
    | true =>
      simp only [if_true]
      refine wpAny_execs_cons (wpAny_Assign_Name (wpAny_BinOp (wpAny_BinOp (nameX_L (cl := []) F hla (wpAny_Constant_int (floordiv_int (by decide) ?_))))))
      refine Call_ (nameX_B (cl := []) F X T rfl boot_len (by decide) ?_)
      refine callWith_builtin1 (args_cons (nameX_L (cl := []) F hm (args_nil ?_)))
      refine len_list (s := { s with toks := _ }) (News.isList N (.head _)) (by simp only [List.size_toArray]; omega) ?_
      rw [List.size_toArray, hvl]
      refine mod_int' (by omega) ?_
      refine storeX_L (cl := []) F N (fun h₁ F₁ N₁ => ?_)
      have hk0 : 0 ≤ (last.fdiv 12).fmod (one.length : Int) := Int.fmod_nonneg_of_pos _ (by omega)
      have hk1 : (last.fdiv 12).fmod (one.length : Int) < one.length := Int.fmod_lt_of_pos _ (by omega)
      generalize (last.fdiv 12).fmod (one.length : Int) = i at *
      refine wpAny_execs_cons (wpAny_Assign_Subscript (wpAny_BinOp (wpAny_BinOp (Subscript_ (nameX_L (cl := []) F₁ ((if_neg (by decide)).trans hm) (nameX_L (cl := []) F₁ (if_pos rfl) ?_))))))
      refine item_at (s := { s with heap := h₁, toks := _ }) (News.isList N₁ (.head _)) hI hk0 hk1 (by omega) (fun t => wpAny_Constant_int (mod_int' (by decide) (wpAny_Constant_int (PyProof.Rows.add_int ?_))))
      refine nameX_L (cl := []) F₁ ((if_neg (by decide)).trans hm) (nameX_L (cl := []) F₁ (if_pos rfl) ?_)
      refine ksa_set (s := { s with heap := h₁, toks := _ }) F₁ N₁ (.head hnD) hI hk0 hk1 (by omega) (fun h₂ F₂ N₂ hI₂ hl₂ _ => ?_)
      dsimp only
      refine wpAny_execs_nil ?_
      dsimp only
      refine wpAny_execs_nil ?_
      have := fmod3 (one.getD i.toNat 0)
      dsimp only
      show wpAny (model prog w) A (execs (lawB.drop 5) (lawE L fa cd)) Q E _
      refine Go.go ?_
      exact k h₂ _ D _ _ _ _ F₂ N₂ hI₂ (sized_set hS (by omega)) (by rw [hl₂]; omega) ((if_neg (by decide)).trans hm) (fun y _ hy => if_neg hy)
    | false =>
      simp only [Bool.false_eq_true, if_false]
      refine wpAny_execs_cons (wpAny_If (isTrue_and (wpAny_isTrue_Compare1 (wpAny_BinOp (wpAny_BinOp (nameX_L (cl := []) F hla (wpAny_Constant_int (floordiv_int (by decide) (wpAny_Constant_int (mod_int' (by decide) (wpAny_Constant_int (PyProof.Rows.eq_int (wpAny_truthy_bool ?_)))))))))))))
      cases h3 : ((last.fdiv 3).fmod 4 == 3) with
      | false =>
        simp only [Bool.false_eq_true, if_false]
        refine wpAny_execs_nil ?_
        dsimp only
        refine wpAny_execs_nil ?_
        dsimp only
        refine wpAny_execs_nil ?_
        dsimp only
        show wpAny (model prog w) A (execs (lawB.drop 5) (lawE L fa cd)) Q E _
        refine Go.go ?_
        exact k _ _ D _ _ _ _ F N hI hS (by omega) hm (fun _ _ _ => rfl)
      | true =>
        simp only [if_true]
        refine isTrue_and (wpAny_isTrue_Compare1 (Call_ (nameX_B (cl := []) F X T rfl boot_len (by decide) ?_)))
        refine callWith_builtin1 (args_cons (nameX_L (cl := []) F hm (args_nil ?_)))
        refine len_list (s := { s with toks := _ }) (News.isList N (.head _)) (by simp only [List.size_toArray]; omega) ?_
        rw [List.size_toArray, hvl]
        refine wpAny_Constant_int (PyProof.Rows.gt_int (wpAny_truthy_bool ?_))
        cases h4 : decide ((1 : Int) < (one.length : Int)) with
        | false =>
          simp only [Bool.false_eq_true, if_false]
          refine wpAny_execs_nil ?_
          dsimp only
          refine wpAny_execs_nil ?_
          dsimp only
          refine wpAny_execs_nil ?_
          dsimp only
          show wpAny (model prog w) A (execs (lawB.drop 5) (lawE L fa cd)) Q E _
          refine Go.go ?_
          exact k _ _ D _ _ _ _ F N hI hS (by omega) hm (fun _ _ _ => rfl)
        | true =>
          simp only [if_true]
          have h5 := of_decide_eq_true h4
          refine isTrue_and_nil ?_
          simp only [if_true]
          refine wpAny_execs_cons (wpAny_Assign_Name (Subscript_ (nameX_L (cl := []) F hm (wpAny_Slice (evalPart_none_step (evalPart_some_step (wpAny_UnaryOp (wpAny_Constant_int (PyProof.Rows.neg_int (evalPart_none_step ?_))))))))))
          refine kmk_slice (s := { s with toks := _ }) F N (News.isList N (.head _)) .none (.int _ _) (fun D₂ h₂ F₂ N₂ _ => ?_) rfl (fun _ => rfl) (by simp only [List.size_toArray]; omega)
          have hI2 := kmk_upto_neg (y := -1) hI (by omega)
          refine storeX_L (cl := []) F₂ N₂ (fun h₃ F₃ N₃ => ?_)
          dsimp only
          refine wpAny_execs_nil ?_
          dsimp only
          refine wpAny_execs_nil ?_
          dsimp only
          refine wpAny_execs_nil ?_
          dsimp only
          show wpAny (model prog w) A (execs (lawB.drop 5) (lawE L fa cd)) Q E _
          refine Go.go ?_
          refine k h₃ _ D₂ _ _ 0 _ F₃ (fun q hq => ?_) hI2 (sized_take hS (by rw [show (-(-1 : Int)).toNat = 1 from rfl]; omega)) (by rw [List.length_take]; omega) (if_pos rfl) (fun y hy _ => if_neg hy)
          rcases List.mem_cons.mp hq with rfl | hq
          · rw [Array.toArray_toList]; exact N₃ _ (.head _)
          · exact N₃ q (.tail _ (.tail _ hq))
end
end Mine
/- the law: the ends, the count -/
namespace Mine
/-- what can be taken out of the ends -/
def Picks (refs : List Value) (news : List (Addr × Obj)) : Prop :=
  ∀ k : Int, 0 ≤ k → k < 5 → ∃ le us es ee, refs[k.toNat]? = some (.ref le) ∧ (le, listOf (List.toArray us) ee) ∈ news ∧ IntsAre us es ∧ IsEnd es
theorem picks_of {a1 a2 a3 a4 a5 : Addr} {t1 t2 t3 t4 t5 t6 : Tok} {news : List (Addr × Obj)} :
    Picks [.ref a1, .ref a2, .ref a3, .ref a4, .ref a5] ((a5, listOf (List.toArray [.int 127 t5, .int 9 t6]) 0) :: (a4, listOf (List.toArray [.int 0 t3, .int 9 t4]) 0) :: (a3, listOf (List.toArray []) 0) :: (a2, listOf (List.toArray [.int 127 t2]) 0) :: (a1, listOf (List.toArray [.int 0 t1]) 0) :: news) := by
  intro k h0 h1
  obtain h | h | h | h | h : k = 0 ∨ k = 1 ∨ k = 2 ∨ k = 3 ∨ k = 4 := by omega
  · subst h; exact ⟨a1, _, [0], _, rfl, .tail _ (.tail _ (.tail _ (.tail _ (.head _)))), .cons _ _ .nil, .inl rfl⟩
  · subst h; exact ⟨a2, _, [127], _, rfl, .tail _ (.tail _ (.tail _ (.head _))), .cons _ _ .nil, .inr (.inl rfl)⟩
  · subst h; exact ⟨a3, _, [], _, rfl, .tail _ (.tail _ (.head _)), .nil, .inr (.inr (.inl rfl))⟩
  · subst h; exact ⟨a4, _, [0, 9], _, rfl, .tail _ (.head _), .cons _ _ (.cons _ _ .nil), .inr (.inr (.inr (.inl rfl)))⟩
  · subst h; exact ⟨a5, _, [127, 9], _, rfl, .head _, .cons _ _ (.cons _ _ .nil), .inr (.inr (.inr (.inr rfl)))⟩
theorem Picks.more {refs : List Value} {news news' : List (Addr × Obj)} (h : Picks refs news) (hs : ∀ q ∈ news, q ∈ news') : Picks refs news' := fun k h0 h1 => by
  obtain ⟨le, us, es, ee, a, b, c⟩ := h k h0 h1
  exact ⟨le, us, es, ee, a, hs _ b, c⟩

section
variable {prog : Program} {w : World} {A : Around} {E : Value → Shared → Prop} {s : Shared} {h₀ : Heap} {L fa : Addr} {m mg mb : Str → Option Value} {cd : Value} {Q : Flow → Shared → Prop} {p : Program} {loose : List Str} {news : List (Addr × Obj)}

/-- ends = [[0], [127], [], [0, 9], [127, 9]] -/
theorem l5_five (F : Fr h₀ L s.heap m) (N : News h₀ L s.heap news)
    (k : ∀ h' tk De refs m' news', Fr h₀ L h' m' → News h₀ L h' news' → (∀ q ∈ news, q ∈ news') → (De, listOf (List.toArray refs) 0) ∈ news' → Picks refs news' → m' "ends" = some (.ref De) → (∀ y, y ≠ ("ends" : Str) → m' y = m y) →
      Go (wpAny (model prog w) A (execs (lawB.drop 6) (lawE L fa cd)) Q E { s with heap := h', toks := tk })) :
    Go (wpAny (model prog w) A (execs (lawB.drop 5) (lawE L fa cd)) Q E s) := by
  refine ⟨?_⟩
  refine wpAny_execs_cons ?_
  refine wpAny_Assign_Name ?_
  refine List_ ?_
  refine args_cons ?_
  refine List_ ?_
  refine args_cons (wpAny_Constant_int (args_nil ?_))
  refine newList_K F N (fun a1 h₁ F₁ N₁ l₁ => ?_)
  refine args_cons ?_
  refine List_ ?_
  refine args_cons (wpAny_Constant_int (args_nil ?_))
  refine newList_K F₁ N₁ (fun a2 h₂ F₂ N₂ l₂ => ?_)
  refine args_cons ?_
  refine List_ ?_
  refine args_nil ?_
  refine newList_K F₂ N₂ (fun a3 h₃ F₃ N₃ l₃ => ?_)
  refine args_cons ?_
  refine List_ ?_
  refine args_cons (wpAny_Constant_int (args_cons (wpAny_Constant_int (args_nil ?_))))
  refine newList_K F₃ N₃ (fun a4 h₄ F₄ N₄ l₄ => ?_)
  refine args_cons ?_
  refine List_ ?_
  refine args_cons (wpAny_Constant_int (args_cons (wpAny_Constant_int (args_nil ?_))))
  refine newList_K F₄ N₄ (fun a5 h₅ F₅ N₅ l₅ => ?_)
  refine args_nil ?_
  refine newList_K F₅ N₅ (fun De h₆ F₆ N₆ l₆ => ?_)
  refine storeX_L (cl := []) F₆ N₆ (fun h₇ F₇ N₇ => ?_)
  dsimp only
  show wpAny (model prog w) A (execs (lawB.drop 6) (lawE L fa cd)) Q E _
  refine Go.go ?_
  refine k h₇ _ De _ _ _ F₇ N₇ (fun q hq => ?_) (.head _) ?_ (if_pos rfl) (fun y hy => if_neg hy)
  · exact .tail _ (.tail _ (.tail _ (.tail _ (.tail _ (.tail _ hq)))))
  · exact picks_of.more fun q hq => .tail _ hq

/-- mine, theirs = (ends[first % 5], ends[(2 * first + 1 + first // 5) % 5]) -/
theorem l5_mine {De : Addr} {refs : List Value} {first : Int} {tf : Tok} (F : Fr h₀ L s.heap m) (N : News h₀ L s.heap news) (hD : (De, listOf (List.toArray refs) 0) ∈ news) (hP : Picks refs news) (hm : m "ends" = some (.ref De)) (hf : m "first" = some (.int first tf)) (hh : A.handled = none)
    (k : ∀ h' tk la lb us vs es fs ea eb m', Fr h₀ L h' m' → News h₀ L h' news → (la, listOf (List.toArray us) ea) ∈ news → IntsAre us es → IsEnd es → (lb, listOf (List.toArray vs) eb) ∈ news → IntsAre vs fs → IsEnd fs → m' "mine" = some (.ref la) → m' "theirs" = some (.ref lb) →
      (∀ y, y ≠ ("mine" : Str) → y ≠ ("theirs" : Str) → m' y = m y) → Go (wpAny (model prog w) A (execs (lawB.drop 7) (lawE L fa cd)) Q E { s with heap := h', toks := tk })) :
    Go (wpAny (model prog w) A (execs (lawB.drop 6) (lawE L fa cd)) Q E s) := by
  refine ⟨?_⟩
  have r1 : 0 ≤ first.fmod 5 ∧ first.fmod 5 < 5 := ⟨Int.fmod_nonneg_of_pos _ (by decide), Int.fmod_lt_of_pos _ (by decide)⟩
  have r2 : 0 ≤ (2 * first + 1 + first.fdiv 5).fmod 5 ∧ (2 * first + 1 + first.fdiv 5).fmod 5 < 5 := ⟨Int.fmod_nonneg_of_pos _ (by decide), Int.fmod_lt_of_pos _ (by decide)⟩
  obtain ⟨la, us, es, ea, p1, p2, p3, p4⟩ := hP _ r1.1 r1.2
  obtain ⟨lb, vs, fs, eb, q1, q2, q3, q4⟩ := hP _ r2.1 r2.2
  refine wpAny_execs_cons ?_
  refine Assign_Tuple_swapped ?_
  refine Tuple_ ?_
  refine args_cons ?_
  refine Subscript_ (nameX_L (cl := []) F hm (wpAny_BinOp (nameX_L (cl := []) F hf (wpAny_Constant_int (mod_int' (by decide) ?_)))))
  refine item_listL (s := { s with toks := _ }) (News.isList N hD) r1.1 (by omega) p1 ?_
  refine args_cons ?_
  refine Subscript_ (nameX_L (cl := []) F hm ?_)
  refine wpAny_BinOp (wpAny_BinOp (wpAny_BinOp (wpAny_BinOp (wpAny_Constant_int (nameX_L (cl := []) F hf ?_)))))
  refine mul_int ?_ (.of_left (by decide))
  refine wpAny_Constant_int (PyProof.Rows.add_int ?_)
  refine wpAny_BinOp (nameX_L (cl := []) F hf (wpAny_Constant_int (floordiv_int (by decide) ?_)))
  refine PyProof.Rows.add_int (wpAny_Constant_int (mod_int' (by decide) ?_))
  refine item_listL (s := { s with toks := _ }) (News.isList N hD) r2.1 (by omega) q1 ?_
  refine args_nil ?_
  refine newTuple_N (s := { s with toks := _ }) F N (fun h₁ F₁ N₁ => ?_)
  refine unpackItems_x ⟨_, (N₁ _ (.head _)).1, rfl, _, rfl⟩ hh rfl (fun h₂ st₂ => ?_)
  have F₂ := fr_stays F₁ st₂
  have N₂ := news_stays N₁ st₂
  refine assignInOrder_cons (bindName_ (storeX_L (cl := []) F₂ N₂ (fun h₃ F₃ N₃ => ?_)))
  refine assignInOrder_cons (bindName_ (storeX_L (cl := []) F₃ N₃ (fun h₄ F₄ N₄ => ?_)))
  refine assignInOrder_nil ?_
  dsimp only
  show wpAny (model prog w) A (execs (lawB.drop 7) (lawE L fa cd)) Q E _
  refine Go.go ?_
  exact k h₄ _ la lb us vs es fs ea eb _ F₄ (fun q hq => N₄ q (.tail _ hq)) p2 p3 p4 q2 q3 q4 rfl rfl (fun y h1 h2 => (if_neg h1).trans (if_neg h2))

/-- count = len(one) + 4 -/
theorem l5_count {D : Addr} {us : List Value} {one : List Int} {ep : Nat} (F : Fr h₀ L s.heap m) (N : News h₀ L s.heap news) (X : (Mine.hd05.heap_39 w.params).In h₀) (T : TopRead p loose mg mb h₀) (hD : (D, listOf (List.toArray us) ep) ∈ news) (hI : IntsAre us one) (hlen : one.length ≤ 10) (hm : m "one" = some (.ref D))
    (k : ∀ h' tk m' t, Fr h₀ L h' m' → News h₀ L h' news → m' "count" = some (.int ((one.length + 4 : Nat) : Int) t) → (∀ y, y ≠ ("count" : Str) → m' y = m y) → Go (wpAny (model prog w) A (execs (lawB.drop 8) (lawE L fa cd)) Q E { s with heap := h', toks := tk })) :
    Go (wpAny (model prog w) A (execs (lawB.drop 7) (lawE L fa cd)) Q E s) := by
  refine ⟨?_⟩
  have hsl : sizeLine = 16777216 := rfl
  have hvl : us.length = one.length := hI.length
  refine wpAny_execs_cons ?_
  refine wpAny_Assign_Name ?_
  refine wpAny_BinOp ?_
  refine Call_ (nameX_B (cl := []) F X T rfl boot_len (by decide) ?_)
  refine callWith_builtin1 (args_cons (nameX_L (cl := []) F hm (args_nil ?_)))
  refine len_list (s := { s with toks := _ }) (News.isList N hD) (by simp only [List.size_toArray]; omega) ?_
  rw [List.size_toArray, hvl]
  refine wpAny_Constant_int (PyProof.Rows.add_int ?_)
  refine storeX_L (cl := []) F N (fun h₁ F₁ N₁ => ?_)
  dsimp only
  show wpAny (model prog w) A (execs (lawB.drop 8) (lawE L fa cd)) Q E _
  refine Go.go ?_
  exact k h₁ _ _ _ F₁ N₁ (if_pos rfl) (fun y hy => if_neg hy)
end
end Mine
/- the law: the two walks -/
namespace Mine
theorem head_sized {ns es : List Int} (h : Sized ns) : (ns ++ es).head? ≠ some 0 := by
  cases ns with
  | nil => exact absurd rfl h.1
  | cons x r =>
    have := h.2 x (.head _)
    simp
    omega
theorem end_len {es : List Int} (h : IsEnd es) : es.length ≤ 2 := by
  rcases h with rfl | rfl | rfl | rfl | rfl <;> simp
theorem told_run {ns es : List Int} (hs : Sized ns) (he : IsEnd es) (n : Nat) : toldFrom (ns ++ es) 0 0 n = run (G ns (decide (es.take 1 = [0]))) 0 0 n := toldFrom_run _ _ (tell_eq hs he) n 0 0

section
variable {prog : Program} {w : World} {E : Value → Shared → Prop} {s : Shared} {h₀ : Heap} {L fa : Addr} {m mg mb : Str → Option Value} {cd : Value} {Q : Flow → Shared → Prop} {p : Program} {loose : List Str} {mean : ExcName → Option Value} {news : List (Addr × Obj)}

/-- left, right = (_law_told(one + mine, count), _law_told(other + theirs, count)) -/
theorem l5_walks {D D' la lb : Addr} {us ws ul vl : List Value} {one other es fs : List Int} {e1 e2 e3 e4 n : Nat} {tc : Tok}
    (B : Below callerA h₀ [] h₀) (F : Fr h₀ L s.heap m) (N : News h₀ L s.heap news) (X : (Mine.hd05.heap_39 w.params).In h₀) (T : Top p loose mean mg mb h₀)
    (hD : (D, listOf (List.toArray us) e1) ∈ news) (hI : IntsAre us one) (hS : Sized one) (hlen : one.length ≤ 10)
    (hD' : (D', listOf (List.toArray ws) e2) ∈ news) (hI' : IntsAre ws other) (hS' : Sized other) (hlen' : other.length ≤ 11)
    (ha : (la, listOf (List.toArray ul) e3) ∈ news) (hIa : IntsAre ul es) (hEa : IsEnd es) (hb : (lb, listOf (List.toArray vl) e4) ∈ news) (hIb : IntsAre vl fs) (hEb : IsEnd fs)
    (m1 : m "one" = some (.ref D)) (m2 : m "other" = some (.ref D')) (m3 : m "mine" = some (.ref la)) (m4 : m "theirs" = some (.ref lb)) (m5 : m "count" = some (.int (n : Int) tc)) (hn : 0 < n) (hn' : n ≤ 1000)
    (k : ∀ s' lL lR al ar c1 c2 m' news', s'.os = s.os → (AllBare s.gens → AllBare s'.gens) → Fr h₀ L s'.heap m' → News h₀ L s'.heap news' → (∀ q ∈ news, q ∈ news') →
      (lL, listOf (List.toArray al) c1) ∈ news' → IntsAre al (run (G one (decide (es.take 1 = [0]))) 0 0 n) → (lR, listOf (List.toArray ar) c2) ∈ news' → IntsAre ar (run (G other (decide (fs.take 1 = [0]))) 0 0 n) →
      m' "left" = some (.ref lL) → m' "right" = some (.ref lR) → (∀ y, y ≠ ("left" : Str) → y ≠ ("right" : Str) → m' y = m y) → Go (wpAny (model prog w) (callerA.deeper (lawE L fa cd)) (execs (lawB.drop 9) (lawE L fa cd)) Q E s')) :
    Go (wpAny (model prog w) (callerA.deeper (lawE L fa cd)) (execs (lawB.drop 8) (lawE L fa cd)) Q E s) := by
  refine ⟨?_⟩
  have hsl : sizeLine = 16777216 := rfl
  have h3 := end_len hEa
  have h4 := end_len hEb
  refine wpAny_execs_cons ?_
  refine Assign_Tuple_swapped ?_
  refine Tuple_ ?_
  refine args_cons ?_
  refine Call_ (nameX_K (cl := []) F X (topRead_of T) rfl ?_)
  refine callWith_K X (by rfl) (args_cons ?_)
  refine wpAny_BinOp (nameX_L (cl := []) F m1 (nameX_L (cl := []) F m3 ?_))
  refine add_lists_ints F N (News.isList N hD) (News.isList N ha) hI hIa (fun h₁ F₁ N₁ hI₁ => ?_) (by omega)
  refine args_cons (nameX_L (cl := []) F₁ m5 (args_nil ?_))
  refine ⟨X.keeps F₁.keep, ?_⟩
  refine told05 (s := { s with heap := h₁ }) B F₁ X N₁ T rfl rfl rfl (by show 1 + claimMargin + 1 + 1 < recursionLimit; decide) rfl (.head _) hI₁ (head_sized hS) hn hn' ?_
  intro s₂ lL al c1 os₂ ge₂ F₂ N₂ hA₂
  rw [told_run hS hEa] at hA₂
  refine args_cons ?_
  refine Call_ (nameX_K (cl := []) F₂ X (topRead_of T) rfl ?_)
  refine callWith_K X (by rfl) (args_cons ?_)
  refine wpAny_BinOp (nameX_L (cl := []) F₂ m2 (nameX_L (cl := []) F₂ m4 ?_))
  refine add_lists_ints F₂ N₂ (News.isList N₂ (.tail _ (.tail _ hD'))) (News.isList N₂ (.tail _ (.tail _ hb))) hI' hIb (fun h₃ F₃ N₃ hI₃ => ?_) (by omega)
  refine args_cons (nameX_L (cl := []) F₃ m5 (args_nil ?_))
  refine ⟨X.keeps F₃.keep, ?_⟩
  refine told05 (s := { s₂ with heap := h₃ }) B F₃ X N₃ T rfl rfl rfl (by show 1 + claimMargin + 1 + 1 < recursionLimit; decide) rfl (.head _) hI₃ (head_sized hS') hn hn' ?_
  intro s₄ lR ar c2 os₄ ge₄ F₄ N₄ hA₄
  rw [told_run hS' hEb] at hA₄
  refine args_nil ?_
  refine newTuple_N F₄ N₄ (fun h₅ F₅ N₅ => ?_)
  refine unpackItems_x ⟨_, (N₅ _ (.head _)).1, rfl, _, rfl⟩ rfl rfl (fun h₆ st₆ => ?_)
  have F₆ := fr_stays F₅ st₆
  have N₆ := news_stays N₅ st₆
  refine assignInOrder_cons (bindName_ (storeX_L (cl := []) F₆ N₆ (fun h₇ F₇ N₇ => ?_)))
  refine assignInOrder_cons (bindName_ (storeX_L (cl := []) F₇ N₇ (fun h₈ F₈ N₈ => ?_)))
  refine assignInOrder_nil ?_
  dsimp only
  show wpAny (model prog w) (callerA.deeper (lawE L fa cd)) (execs (lawB.drop 9) (lawE L fa cd)) Q E _
  refine Go.go ?_
  refine k _ lL lR al ar c1 c2 _ _ ?_ ?_ F₈ N₈ (fun q hq => ?_) (.tail _ (.tail _ (.tail _ (.head _)))) hA₂ (.tail _ (.head _)) hA₄ rfl rfl (fun y h1 h2 => (if_neg h1).trans (if_neg h2))
  · exact os₄.trans os₂
  · exact fun h => ge₄ (ge₂ h)
  · exact .tail _ (.tail _ (.tail _ (.tail _ (.tail _ hq))))
end
end Mine
/- the law: the first loop -/
namespace Mine
def optV : Option Int → Tok → Value
  | none, _ => .none
  | some d, t => .int d t
theorem one_at {l : List Int} {j : Nat} : (l.drop (j : Int).toNat).take (min ((j : Int) + 1).toNat l.length - (j : Int).toNat) = (l.drop j).take 1 := by
  rw [Int.toNat_natCast, show ((j : Int) + 1).toNat = j + 1 by omega]
  by_cases h : j < l.length
  · rw [Nat.min_eq_left (by omega)]
    congr 1
    omega
  · rw [List.drop_of_length_le (by omega)]
    simp
theorem told_at {l r : List Int} {c j : Nat} {M : Int} (hj : j < c) (hd : (l.drop j).take 1 ≠ (r.drop j).take 1) (hb : ∀ i, i < j → (l.drop i).take 1 = (r.drop i).take 1)
    (hM : M ∈ (l.drop j).take 1 ++ (r.drop j).take 1) (hm : ∀ a, a ∈ (l.drop j).take 1 ++ (r.drop j).take 1 → M ≤ a) : toldV l r c = some M := by
  unfold toldV
  have e : (List.range c).find? (fun k => decide ((l.drop k).take 1 ≠ (r.drop k).take 1)) = some j := by
    rw [List.find?_range_eq_some]
    refine ⟨by simpa using hd, by simpa using hj, fun i hi => ?_⟩
    simp [hb i hi]
  rw [e]
  simp only [Option.bind_some]
  rw [List.min?_eq_some_iff]
  exact ⟨hM, fun b hb => hm b hb⟩
theorem told_none {l r : List Int} {c : Nat} (hb : ∀ i, i < c → (l.drop i).take 1 = (r.drop i).take 1) : toldV l r c = none := by
  unfold toldV
  rw [List.find?_eq_none.mpr]
  · rfl
  · intro i hi
    rw [List.mem_range] at hi
    simp [hb i hi]

section
variable {prog : Program} {w : World} {A : Around} {E : Value → Shared → Prop} {s : Shared} {h₀ : Heap} {L fa : Addr} {m mg mb : Str → Option Value} {cd : Value} {Q : Flow → Shared → Prop} {p : Program} {loose : List Str} {news : List (Addr × Obj)}

def for1 : List Stmt := match lawB.drop 10 with | .For _ _ b _ _ :: _ => b | _ => []

/-- a turn of the first loop -/
theorem l5_turn1 {lL lR : Addr} {al ar : List Value} {nl nr : List Int} {c1 c2 j : Nat} {tk0 : Tok} (F : Fr h₀ L s.heap m) (N : News h₀ L s.heap news) (X : (Mine.hd05.heap_39 w.params).In h₀) (T : TopRead p loose mg mb h₀) (hh : A.handled = none) (hu : A.units + 64 < cLine)
    (hl : (lL, listOf (List.toArray al) c1) ∈ news) (hIl : IntsAre al nl) (hr : (lR, listOf (List.toArray ar) c2) ∈ news) (hIr : IntsAre ar nr) (hnl : nl.length ≤ 1000) (hnr : nr.length ≤ 1000)
    (m1 : m "left" = some (.ref lL)) (m2 : m "right" = some (.ref lR)) (m3 : m "k" = some (.int (j : Int) tk0))
    (kN : (nl.drop j).take 1 = (nr.drop j).take 1 → ∀ h' tk, Fr h₀ L h' m → News h₀ L h' news → Go (Q .next { s with heap := h', toks := tk }))
    (kB : (nl.drop j).take 1 ≠ (nr.drop j).take 1 → ∀ h' tk m' M t, Fr h₀ L h' m' → News h₀ L h' news → M ∈ (nl.drop j).take 1 ++ (nr.drop j).take 1 → (∀ a, a ∈ (nl.drop j).take 1 ++ (nr.drop j).take 1 → M ≤ a) → m' "told" = some (.int M t) → (∀ y, y ≠ ("told" : Str) → m' y = m y) → Go (Q .brk { s with heap := h', toks := tk })) :
    wpAny (model prog w) A (execs for1 (lawE L fa cd)) Q E s := by
  have hsl : sizeLine = 16777216 := rfl
  have hal : al.length = nl.length := hIl.length
  have har : ar.length = nr.length := hIr.length
  refine wpAny_execs_cons ?_
  refine wpAny_If ?_
  refine wpAny_isTrue_Compare1 ?_
  refine Subscript_ (nameX_L (cl := []) F m1 (wpAny_Slice (evalPart_some_step (nameX_L (cl := []) F m3 ?_))))
  refine evalPart_some_step (wpAny_BinOp (nameX_L (cl := []) F m3 (wpAny_Constant_int (PyProof.Rows.add_int (evalPart_none_step ?_)))))
  refine kmk_slice (s := { s with toks := _ }) F N (News.isList N hl) (.int _ _) (.int _ _) (fun D₁ h₁ F₁ N₁ _ => ?_) rfl (fun _ => rfl) (by simp only [List.size_toArray]; omega)
  have hI₁ := kmk_run (x := (j : Int)) (y := (j : Int) + 1) hIl (by omega) (by omega)
  rw [one_at] at hI₁
  refine Subscript_ (nameX_L (cl := []) F₁ m2 (wpAny_Slice (evalPart_some_step (nameX_L (cl := []) F₁ m3 ?_))))
  refine evalPart_some_step (wpAny_BinOp (nameX_L (cl := []) F₁ m3 (wpAny_Constant_int (PyProof.Rows.add_int (evalPart_none_step ?_)))))
  refine kmk_slice (s := { s with heap := h₁, toks := _ }) F₁ N₁ (News.isList N₁ (.tail _ hr)) (.int _ _) (.int _ _) (fun D₂ h₂ F₂ N₂ _ => ?_) rfl (fun _ => rfl) (by simp only [List.size_toArray]; omega)
  have hI₂ := kmk_run (x := (j : Int)) (y := (j : Int) + 1) hIr (by omega) (by omega)
  rw [one_at] at hI₂
  have hL1 : h₂.IsList D₁ (slicePick al.toArray (some (j : Int)) (some ((j : Int) + 1)) none).toList.toArray := by rw [Array.toArray_toList]; exact News.isList N₂ (.tail _ (.head _))
  have hL2 : h₂.IsList D₂ (slicePick ar.toArray (some (j : Int)) (some ((j : Int) + 1)) none).toList.toArray := by rw [Array.toArray_toList]; exact News.isList N₂ (.head _)
  have N₂' : News h₀ L h₂ news := fun q hq => N₂ q (.tail _ (.tail _ hq))
  refine ne_intsK hL1 hI₁ hL2 hI₂ hu (wpAny_truthy_bool ?_)
  by_cases hd : (nl.drop j).take 1 = (nr.drop j).take 1
  · rw [decide_eq_true hd]
    simp only [Bool.not_true, Bool.false_eq_true, if_false]
    refine wpAny_execs_nil ?_
    dsimp only
    refine wpAny_execs_nil ?_
    exact (kN hd h₂ _ F₂ N₂').go
  · rw [decide_eq_false hd]
    simp only [Bool.not_false, if_true]
    refine wpAny_execs_cons ?_
    refine wpAny_Assign_Name ?_
    refine Call_ (nameX_B (cl := []) F₂ X T rfl boot_min (by decide) ?_)
    refine callWith_builtin1 (args_cons ?_)
    refine wpAny_BinOp ?_
    refine Subscript_ (nameX_L (cl := []) F₂ m1 (wpAny_Slice (evalPart_some_step (nameX_L (cl := []) F₂ m3 ?_))))
    refine evalPart_some_step (wpAny_BinOp (nameX_L (cl := []) F₂ m3 (wpAny_Constant_int (PyProof.Rows.add_int (evalPart_none_step ?_)))))
    refine kmk_slice (s := { s with heap := h₂, toks := _ }) F₂ N₂' (News.isList N₂' hl) (.int _ _) (.int _ _) (fun D₃ h₃ F₃ N₃ _ => ?_) rfl (fun _ => rfl) (by simp only [List.size_toArray]; omega)
    refine Subscript_ (nameX_L (cl := []) F₃ m2 (wpAny_Slice (evalPart_some_step (nameX_L (cl := []) F₃ m3 ?_))))
    refine evalPart_some_step (wpAny_BinOp (nameX_L (cl := []) F₃ m3 (wpAny_Constant_int (PyProof.Rows.add_int (evalPart_none_step ?_)))))
    refine kmk_slice (s := { s with heap := h₃, toks := _ }) F₃ N₃ (News.isList N₃ (.tail _ hr)) (.int _ _) (.int _ _) (fun D₄ h₄ F₄ N₄ _ => ?_) rfl (fun _ => rfl) (by simp only [List.size_toArray]; omega)
    have hL3 : h₄.IsList D₃ (slicePick al.toArray (some (j : Int)) (some ((j : Int) + 1)) none).toList.toArray := by rw [Array.toArray_toList]; exact News.isList N₄ (.tail _ (.head _))
    have hL4 : h₄.IsList D₄ (slicePick ar.toArray (some (j : Int)) (some ((j : Int) + 1)) none).toList.toArray := by rw [Array.toArray_toList]; exact News.isList N₄ (.head _)
    have N₄' : News h₀ L h₄ news := fun q hq => N₄ q (.tail _ (.tail _ hq))
    have hb1 : ((nl.drop j).take 1).length ≤ 1 := by rw [List.length_take]; omega
    have hb2 : ((nr.drop j).take 1).length ≤ 1 := by rw [List.length_take]; omega
    refine add_lists_ints F₄ N₄' hL3 hL4 hI₁ hI₂ (fun h₅ F₅ N₅ hI₅ => ?_) (by omega)
    refine args_nil ?_
    have hne : 0 < ((nl.drop j).take 1 ++ (nr.drop j).take 1).length := by
      rcases Nat.eq_zero_or_pos ((nl.drop j).take 1 ++ (nr.drop j).take 1).length with h | h
      · have := List.append_eq_nil_iff.mp (List.eq_nil_of_length_eq_zero h)
        exact absurd (this.1.trans this.2.symm) hd
      · exact h
    refine min_list_N hh F₅ N₅ (News.isList N₅ (.head _)) hI₅ hne (fun h₆ M t tk₆ F₆ N₆ hM hm => ?_)
    refine storeX_L (cl := []) F₆ (fun q hq => N₆ q (.tail _ hq)) (fun h₇ F₇ N₇ => ?_)
    dsimp only
    refine wpAny_execs_cons ?_
    refine wpAny_Break ?_
    exact (kB hd h₇ _ _ M t F₇ N₇ hM hm (if_pos rfl) (fun y hy => if_neg hy)).go

/-- told = None; for k in range(count): .. -/
theorem l5_told {lL lR : Addr} {al ar : List Value} {nl nr : List Int} {c1 c2 n : Nat} {tc : Tok} (F : Fr h₀ L s.heap m) (N : News h₀ L s.heap news) (X : (Mine.hd05.heap_39 w.params).In h₀) (T : TopRead p loose mg mb h₀) (hh : A.handled = none) (hu : A.units + 64 < cLine)
    (hl : (lL, listOf (List.toArray al) c1) ∈ news) (hIl : IntsAre al nl) (hr : (lR, listOf (List.toArray ar) c2) ∈ news) (hIr : IntsAre ar nr) (hnl : nl.length ≤ 1000) (hnr : nr.length ≤ 1000) (hn : n ≤ 1000)
    (m1 : m "left" = some (.ref lL)) (m2 : m "right" = some (.ref lR)) (m3 : m "count" = some (.int (n : Int) tc))
    (k : ∀ s' m' t, Sim s s' → Fr h₀ L s'.heap m' → News h₀ L s'.heap news → m' "told" = some (optV (toldV nl nr n) t) → (∀ y, y ≠ ("told" : Str) → y ≠ ("k" : Str) → m' y = m y) → Go (wpAny (model prog w) A (execs (lawB.drop 11) (lawE L fa cd)) Q E s')) :
    Go (wpAny (model prog w) A (execs (lawB.drop 9) (lawE L fa cd)) Q E s) := by
  refine ⟨?_⟩
  refine wpAny_execs_cons ?_
  refine wpAny_Assign_Name ?_
  refine wpAny_Constant_none ?_
  refine storeX_L (cl := []) F N (fun h₁ F₁ N₁ => ?_)
  dsimp only
  refine wpAny_execs_cons ?_
  refine wpAny_For ?_ (by intro _; rfl)
  refine Call_ (nameX_B (cl := []) F₁ X T rfl boot_range (by decide) ?_)
  refine PyProof.Rows.callWith_type1 (args_cons (nameX_L (cl := []) F₁ ((if_neg (by decide)).trans m3) (args_nil ?_)))
  refine range_iter_1 (N := n) (s := { s with heap := h₁, toks := _ }) F₁ N₁ (by omega) (fun I h₂ tk₂ F₂ N₂ hI => ?_)
  refine range_for (cl := []) hh (fun j m' news' => news' = news ∧ m' "told" = some .none ∧ (∀ i, i < j → (nl.drop i).take 1 = (nr.drop i).take 1) ∧ ∀ y, y ≠ ("told" : Str) → y ≠ ("k" : Str) → m' y = m y) F₂ N₂ hI ⟨rfl, if_pos rfl, fun i hi => absurd hi (Nat.not_lt_zero _), fun y h1 _ => if_neg h1⟩ ?_ ?_
  · rintro j s' m' _ t hj ⟨rfl, ht, hb, hy⟩ hn' hs F' N'
    refine ⟨?_⟩
    have e0 : (0 : Int) + (j : Nat) = (j : Int) := Int.zero_add _
    rw [e0] at F'
    refine l5_turn1 (j := j) F' N' X T hh hu (.tail _ hl) hIl (.tail _ hr) hIr hnl hnr ((if_neg (by decide)).trans ((hy _ (by decide) (by decide)).trans m1)) ((if_neg (by decide)).trans ((hy _ (by decide) (by decide)).trans m2)) (if_pos rfl) ?_ ?_
    · intro he h₃ tk₃ F₃ N₃
      refine ⟨?_⟩
      refine ⟨_, _, ⟨rfl, (if_neg (by decide)).trans ht, fun i hi => ?_, fun y h1 h2 => (if_neg h2).trans (hy y h1 h2)⟩, hn', hs, F₃, N₃⟩
      rcases Nat.lt_or_eq_of_le (Nat.le_of_lt_succ hi) with h | rfl
      · exact hb i h
      · exact he
    · intro hd h₃ tk₃ m₃ M t₃ F₃ N₃ hM hm e1 e2
      refine ⟨?_⟩
      dsimp only
      show wpAny (model prog w) A (execs (lawB.drop 11) (lawE L fa cd)) Q E _
      refine Go.go ?_
      refine k _ m₃ t₃ hs F₃ (fun q hq => N₃ q (.tail _ hq)) ?_ (fun y h1 h2 => (e2 y h1).trans ((if_neg h2).trans (hy y h1 h2)))
      rw [told_at hj hd hb hM hm]; exact e1
  · rintro s' m' _ ⟨rfl, ht, hb, hy⟩ hs F' N'
    refine ⟨?_⟩
    dsimp only
    show wpAny (model prog w) A (execs (lawB.drop 11) (lawE L fa cd)) Q E _
    refine Go.go ?_
    refine k s' m' 0 hs F' N' ?_ hy
    rw [told_none hb]; exact ht
end
end Mine
/- the law: the second loop, the end -/
namespace Mine
theorem due_at {p : Int → Bool} {n j : Nat} (hj : j < n) (hd : p (1 + (j : Int)) = true) (hb : ∀ i : Nat, i < j → p (1 + (i : Int)) = false) : dueV p n = some (1 + (j : Int)) :=
  dueV_some (by omega) (by omega) hd fun q h1 h2 => by
    have := hb (q - 1).toNat (by omega)
    rw [show 1 + (((q - 1).toNat : Nat) : Int) = q by omega] at this
    exact this
theorem due_no {p : Int → Bool} {n : Nat} (hb : ∀ i : Nat, i < n → p (1 + (i : Int)) = false) : dueV p n = none :=
  dueV_none fun q h1 h2 => by
    have := hb (q - 1).toNat (by omega)
    rw [show 1 + (((q - 1).toNat : Nat) : Int) = q by omega] at this
    exact this
theorem last_ne {ns : List Int} (h : Sized ns) : lastI ns ≠ 0 := by
  have := h.2 _ (lastI_mem h.1); omega

section
variable {prog : Program} {w : World} {E : Value → Shared → Prop} {s : Shared} {h₀ : Heap} {L fa : Addr} {m mg mb : Str → Option Value} {cd : Value} {Q : Flow → Shared → Prop} {p : Program} {loose : List Str} {mean : ExcName → Option Value} {news : List (Addr × Obj)}

def for2 : List Stmt := match lawB.drop 12 with | .For _ _ b _ _ :: _ => b | _ => []

/-- a turn of the second loop -/
theorem l5_turn2 {D D' la lb : Addr} {us ws ul vl : List Value} {one other es fs : List Int} {e1 e2 e3 e4 : Nat} {tp : Tok} {place : Int}
    (B : Below callerA h₀ [] h₀) (F : Fr h₀ L s.heap m) (N : News h₀ L s.heap news) (X : (Mine.hd05.heap_39 w.params).In h₀) (T : Top p loose mean mg mb h₀)
    (hD : (D, listOf (List.toArray us) e1) ∈ news) (hI : IntsAre us one) (hS : Sized one) (hlen : one.length ≤ 10)
    (hD' : (D', listOf (List.toArray ws) e2) ∈ news) (hI' : IntsAre ws other) (hS' : Sized other) (hlen' : other.length ≤ 11)
    (ha : (la, listOf (List.toArray ul) e3) ∈ news) (hIa : IntsAre ul es) (hEa : IsEnd es) (hb : (lb, listOf (List.toArray vl) e4) ∈ news) (hIb : IntsAre vl fs) (hEb : IsEnd fs)
    (m1 : m "one" = some (.ref D)) (m2 : m "other" = some (.ref D')) (m3 : m "mine" = some (.ref la)) (m4 : m "theirs" = some (.ref lb)) (m5 : m "place" = some (.int place tp))
    (kN : (standsB place one es != standsB place other fs) = false → ∀ h' tk, Fr h₀ L h' m → News h₀ L h' news → Go (Q .next { s with heap := h', toks := tk }))
    (kB : (standsB place one es != standsB place other fs) = true → ∀ h' tk m', Fr h₀ L h' m' → News h₀ L h' news → m' "due" = some (.int place tp) → (∀ y, y ≠ ("due" : Str) → m' y = m y) → Go (Q .brk { s with heap := h', toks := tk })) :
    wpAny (model prog w) (callerA.deeper (lawE L fa cd)) (execs for2 (lawE L fa cd)) Q E s := by
  have h3 := end_len hEa
  have h4 := end_len hEb
  have hu : ∀ e, ((callerA.deeper (lawE L fa cd)).deeper e).units + 64 < cLine := fun e => Nat.le_of_ble_eq_true rfl
  refine wpAny_execs_cons ?_
  refine wpAny_If ?_
  refine wpAny_isTrue_Compare1 ?_
  refine Call_ (nameX_K (cl := []) F X (topRead_of T) rfl ?_)
  refine callWith_K X (by rfl) (args_cons (nameX_L (cl := []) F m5 (args_cons (nameX_L (cl := []) F m1 (args_cons (nameX_L (cl := []) F m3 (args_nil ?_)))))))
  refine ⟨X.keeps F.keep, ?_⟩
  refine stands05 B F X N T rfl rfl rfl (by show 1 + claimMargin + 1 < recursionLimit; decide) rfl hu hD hI (by omega) hS.1 (last_ne hS) ha hIa (by omega) ?_
  intro h₁ tk₁ F₁ N₁
  refine Call_ (nameX_K (cl := []) F₁ X (topRead_of T) rfl ?_)
  refine callWith_K X (by rfl) (args_cons (nameX_L (cl := []) F₁ m5 (args_cons (nameX_L (cl := []) F₁ m2 (args_cons (nameX_L (cl := []) F₁ m4 (args_nil ?_)))))))
  refine ⟨X.keeps F₁.keep, ?_⟩
  refine stands05 (s := { s with heap := h₁, toks := tk₁ }) B F₁ X N₁ T rfl rfl rfl (by show 1 + claimMargin + 1 < recursionLimit; decide) rfl hu hD' hI' (by omega) hS'.1 (last_ne hS') hb hIb (by omega) ?_
  intro h₂ tk₂ F₂ N₂
  refine ne_bool (wpAny_truthy_bool ?_)
  cases hd : (standsB place one es != standsB place other fs) with
  | false =>
    simp only [Bool.false_eq_true, if_false]
    refine wpAny_execs_nil ?_
    dsimp only
    refine wpAny_execs_nil ?_
    exact (kN hd h₂ _ F₂ N₂).go
  | true =>
    simp only [if_true]
    refine wpAny_execs_cons ?_
    refine wpAny_Assign_Name ?_
    refine nameX_L (cl := []) F₂ m5 ?_
    refine storeX_L (cl := []) F₂ N₂ (fun h₃ F₃ N₃ => ?_)
    dsimp only
    refine wpAny_execs_cons ?_
    refine wpAny_Break ?_
    exact (kB hd h₃ _ _ F₃ N₃ (if_pos rfl) (fun y hy => if_neg hy)).go

/-- due = None; for place in range(1, 3 * len(one) + 20): .. -/
theorem l5_due {D D' la lb : Addr} {us ws ul vl : List Value} {one other es fs : List Int} {e1 e2 e3 e4 : Nat}
    (B : Below callerA h₀ [] h₀) (F : Fr h₀ L s.heap m) (N : News h₀ L s.heap news) (X : (Mine.hd05.heap_39 w.params).In h₀) (T : Top p loose mean mg mb h₀)
    (hD : (D, listOf (List.toArray us) e1) ∈ news) (hI : IntsAre us one) (hS : Sized one) (hlen : one.length ≤ 10)
    (hD' : (D', listOf (List.toArray ws) e2) ∈ news) (hI' : IntsAre ws other) (hS' : Sized other) (hlen' : other.length ≤ 11)
    (ha : (la, listOf (List.toArray ul) e3) ∈ news) (hIa : IntsAre ul es) (hEa : IsEnd es) (hb : (lb, listOf (List.toArray vl) e4) ∈ news) (hIb : IntsAre vl fs) (hEb : IsEnd fs)
    (m1 : m "one" = some (.ref D)) (m2 : m "other" = some (.ref D')) (m3 : m "mine" = some (.ref la)) (m4 : m "theirs" = some (.ref lb))
    (k : ∀ s' m' t, Sim s s' → Fr h₀ L s'.heap m' → News h₀ L s'.heap news → m' "due" = some (optV (dueV (fun q => standsB q one es != standsB q other fs) (3 * one.length + 19)) t) → m' "told" = m "told" → Go (wpAny (model prog w) (callerA.deeper (lawE L fa cd)) (execs (lawB.drop 13) (lawE L fa cd)) Q E s')) :
    Go (wpAny (model prog w) (callerA.deeper (lawE L fa cd)) (execs (lawB.drop 11) (lawE L fa cd)) Q E s) := by
  refine ⟨?_⟩
  have hsl : sizeLine = 16777216 := rfl
  have hvl : us.length = one.length := hI.length
  refine wpAny_execs_cons ?_
  refine wpAny_Assign_Name ?_
  refine wpAny_Constant_none ?_
  refine storeX_L (cl := []) F N (fun h₁ F₁ N₁ => ?_)
  dsimp only
  refine wpAny_execs_cons ?_
  refine wpAny_For ?_ (by intro _; rfl)
  refine Call_ (nameX_B (cl := []) F₁ X (topRead_of T) rfl boot_range (by decide) ?_)
  refine PyProof.Rows.callWith_type1 (args_cons (wpAny_Constant_int (args_cons ?_)))
  refine wpAny_BinOp (wpAny_BinOp (wpAny_Constant_int ?_))
  refine Call_ (nameX_B (cl := []) F₁ X (topRead_of T) rfl boot_len (by decide) ?_)
  refine callWith_builtin1 (args_cons (nameX_L (cl := []) F₁ ((if_neg (by decide)).trans m1) (args_nil ?_)))
  refine len_list (s := { s with heap := h₁, toks := _ }) (News.isList N₁ hD) (by simp only [List.size_toArray]; omega) ?_
  rw [List.size_toArray, hvl]
  refine mul_int ?_ (.of_left (by decide))
  refine wpAny_Constant_int (PyProof.Rows.add_int (args_nil ?_))
  rw [show (3 : Int) * (one.length : Int) + 20 = 1 + ((3 * one.length + 19 : Nat) : Int) by omega]
  refine range_iter_N (N := 3 * one.length + 19) (s := { s with heap := h₁, toks := _ }) F₁ N₁ (by omega) (by omega) (by omega) (fun I h₂ tk₂ F₂ N₂ hI2 => ?_)
  refine range_for (cl := []) rfl (fun j m' news' => news' = news ∧ m' "due" = some .none ∧ (∀ i : Nat, i < j → (fun q => standsB q one es != standsB q other fs) (1 + (i : Int)) = false) ∧ ∀ y, y ≠ ("due" : Str) → y ≠ ("place" : Str) → m' y = m y) F₂ N₂ hI2 ⟨rfl, if_pos rfl, fun i hi => absurd hi (Nat.not_lt_zero _), fun y h1 _ => if_neg h1⟩ ?_ ?_
  · rintro j s' m' _ t hj ⟨rfl, ht, hbd, hy⟩ hn' hs F' N'
    refine ⟨?_⟩
    refine l5_turn2 (place := 1 + (j : Int)) (tp := t) B F' N' X T (.tail _ hD) hI hS hlen (.tail _ hD') hI' hS' hlen' (.tail _ ha) hIa hEa (.tail _ hb) hIb hEb ((if_neg (by decide)).trans ((hy _ (by decide) (by decide)).trans m1)) ((if_neg (by decide)).trans ((hy _ (by decide) (by decide)).trans m2)) ((if_neg (by decide)).trans ((hy _ (by decide) (by decide)).trans m3)) ((if_neg (by decide)).trans ((hy _ (by decide) (by decide)).trans m4)) (if_pos rfl) ?_ ?_
    · intro he h₃ tk₃ F₃ N₃
      refine ⟨?_⟩
      refine ⟨_, _, ⟨rfl, (if_neg (by decide)).trans ht, fun i hi => ?_, fun y h1 h2 => (if_neg h2).trans (hy y h1 h2)⟩, hn', hs, F₃, N₃⟩
      rcases Nat.lt_or_eq_of_le (Nat.le_of_lt_succ hi) with h | rfl
      · exact hbd i h
      · exact he
    · intro hd h₃ tk₃ m₃ F₃ N₃ e1 e2
      refine ⟨?_⟩
      dsimp only
      show wpAny (model prog w) (callerA.deeper (lawE L fa cd)) (execs (lawB.drop 13) (lawE L fa cd)) Q E _
      refine Go.go ?_
      refine k _ m₃ t hs F₃ (fun q hq => N₃ q (.tail _ hq)) ?_ ((e2 _ (by decide)).trans ((if_neg (by decide)).trans (hy _ (by decide) (by decide))))
      rw [due_at (p := fun q => standsB q one es != standsB q other fs) hj hd hbd]; exact e1
  · rintro s' m' _ ⟨rfl, ht, hbd, hy⟩ hs F' N'
    refine ⟨?_⟩
    dsimp only
    show wpAny (model prog w) (callerA.deeper (lawE L fa cd)) (execs (lawB.drop 13) (lawE L fa cd)) Q E _
    refine Go.go ?_
    refine k s' m' 0 hs F' N' ?_ (hy _ (by decide) (by decide))
    rw [due_no hbd]; exact ht

/-- return told == due -/
theorem l5_end {A : Around} {v : Option Int} {t u : Tok} (F : Fr h₀ L s.heap m) (ht : m "told" = some (optV v t)) (hd : m "due" = some (optV v u))
    (k : ∀ tk, Go (Q (.ret (.bool true)) { s with toks := tk })) : Go (wpAny (model prog w) A (execs (lawB.drop 13) (lawE L fa cd)) Q E s) := by
  refine ⟨?_⟩
  refine wpAny_execs_cons ?_
  refine wpAny_Return_some ?_
  refine wpAny_Compare1 (nameX_L (cl := []) F ht (nameX_L (cl := []) F hd ?_))
  cases v with
  | none => exact EqNone.eq_none_none (k s.toks).go
  | some d =>
    refine PyProof.Rows.eq_int ?_
    rw [beq_self_eq_true]
    exact (k s.toks).go

end
end Mine
/- the law: whole -/
namespace Mine
section
variable {prog : Program} {w : World} {E : Value → Shared → Prop} {s : Shared} {h₀ : Heap} {L fa : Addr} {m mg mb : Str → Option Value} {cd : Value} {Q : Flow → Shared → Prop} {p : Program} {loose : List Str} {mean : ExcName → Option Value} {news : List (Addr × Obj)}

theorem law_body {l : Addr} {vs : List Value} {ns : List Int} (B : Below callerA h₀ [] h₀) (F : Fr h₀ L s.heap m) (N : News h₀ L s.heap []) (X : (Mine.hd05.heap_39 w.params).In h₀) (T : Top p loose mean mg mb h₀)
    (hm : m "script" = some (.ref l)) (hl : h₀.IsList l vs.toArray) (hI : IntsAre vs ns) (hlen : ns.length ≤ 63)
    (k : ∀ s' m', Sim s s' → Fr h₀ L s'.heap m' → Q (.ret (.bool true)) s') :
    wpAny (model prog w) (callerA.deeper (lawE L fa cd)) (execs lawB (lawE L fa cd)) Q E s := by
  have hu : (callerA.deeper (lawE L fa cd)).units + 64 < cLine := Nat.le_of_ble_eq_true rfl
  refine l5_numbers F N hm hl hI hlen hu ?_
  intro h₁ tk₁ D us nums ep m₁ F₁ N₁ hI₁ hne hl₁ g1
  refine l5_ends (s := { s with heap := h₁, toks := tk₁ }) F₁ N₁ hI₁ hne hl₁ g1 rfl ?_
  intro h₂ tk₂ m₂ t1 t2 F₂ N₂ g2 g3 g4
  refine l5_one (s := { s with heap := h₂, toks := tk₂ }) F₂ N₂ hI₁ hl₁ g2 rfl ?_
  intro h₃ tk₃ D₁ us₁ ep₁ m₃ F₃ N₃ hI₃ g5 g6
  have hS := sized_map hne
  have hl₃ : (nums.map fun x => 1 + x.fmod 3).length ≤ 10 := by rw [List.length_map]; exact hl₁
  generalize (nums.map fun x => 1 + x.fmod 3) = one at hI₃ hS hl₃
  refine l5_other (s := { s with heap := h₃, toks := tk₃ }) F₃ N₃ X (topRead_of T) hI₃ hl₃ g5 ?_
  intro h₄ tk₄ D₂ ep₂ m₄ F₄ N₄ lt₄ g7 g8
  refine l5_turn (s := { s with heap := h₄, toks := tk₄ }) F₄ N₄ X (topRead_of T) lt₄ hI₃ hS hl₃ g7 ((g8 _ (by decide)).trans ((g6 _ (by decide)).trans g4)) ?_
  intro h₅ tk₅ D₃ us₃ other ep₃ m₅ F₅ N₅ hI₅ hS₅ hl₅ g9 g10
  have o5 : m₅ "one" = some (.ref D₁) := (g10 _ (by decide) (by decide)).trans ((g8 _ (by decide)).trans g5)
  have f5 : m₅ "first" = some (.int (nums.getD 0 0) t1) := (g10 _ (by decide) (by decide)).trans ((g8 _ (by decide)).trans ((g6 _ (by decide)).trans g3))
  refine l5_five (s := { s with heap := h₅, toks := tk₅ }) F₅ N₅ ?_
  intro h₆ tk₆ De refs m₆ news₆ F₆ N₆ sub₆ hDe hP g11 g12
  refine l5_mine (s := { s with heap := h₆, toks := tk₆ }) F₆ N₆ hDe hP g11 ((g12 _ (by decide)).trans f5) rfl ?_
  intro h₇ tk₇ la lb ul vl es fs ea eb m₇ F₇ N₇ ha hIa hEa hb hIb hEb g13 g14 g15
  have o7 : m₇ "one" = some (.ref D₁) := (g15 _ (by decide) (by decide)).trans ((g12 _ (by decide)).trans o5)
  have t7 : m₇ "other" = some (.ref D₃) := (g15 _ (by decide) (by decide)).trans ((g12 _ (by decide)).trans g9)
  have d1 := sub₆ _ (List.Mem.tail (D₃, listOf (List.toArray us₃) ep₃) (List.Mem.head (a := (D₁, listOf (List.toArray us₁) ep₁)) []))
  have d2 := sub₆ _ (List.Mem.head (a := (D₃, listOf (List.toArray us₃) ep₃)) [(D₁, listOf (List.toArray us₁) ep₁)])
  refine l5_count (s := { s with heap := h₇, toks := tk₇ }) F₇ N₇ X (topRead_of T) d1 hI₃ hl₃ o7 ?_
  intro h₈ tk₈ m₈ tc F₈ N₈ g16 g17
  refine l5_walks (s := { s with heap := h₈, toks := tk₈ }) B F₈ N₈ X T d1 hI₃ hS hl₃ d2 hI₅ hS₅ (by omega) ha hIa hEa hb hIb hEb ((g17 _ (by decide)).trans o7) ((g17 _ (by decide)).trans t7) ((g17 _ (by decide)).trans g13) ((g17 _ (by decide)).trans g14) g16 (by omega) (by omega) ?_
  intro s₉ lL lR al ar c1 c2 m₉ news₉ os₉ ge₉ F₉ N₉ sub₉ hL hIL hR hIR g18 g19 g20
  have up : ∀ {y : Str} {v : Value}, y ≠ ("left" : Str) → y ≠ ("right" : Str) → y ≠ ("count" : Str) → m₇ y = some v → m₉ y = some v := fun h1 h2 h3 e => (g20 _ h1 h2).trans ((g17 _ h3).trans e)
  have q1 := run_length (G one (decide (es.take 1 = [0]))) (one.length + 4) 0 0
  have q2 := run_length (G other (decide (fs.take 1 = [0]))) (one.length + 4) 0 0
  refine l5_told F₉ N₉ X (topRead_of T) rfl hu hL hIL hR hIR (by omega) (by omega) (n := one.length + 4) (by omega) g18 g19 ((g20 _ (by decide) (by decide)).trans g16) ?_
  intro s₁₀ m₁₀ t₁₀ sim₁₀ F₁₀ N₁₀ g21 g22
  have up2 : ∀ {y : Str} {v : Value}, y ≠ ("told" : Str) → y ≠ ("k" : Str) → m₉ y = some v → m₁₀ y = some v := fun h1 h2 e => (g22 _ h1 h2).trans e
  refine l5_due B F₁₀ N₁₀ X T (sub₉ _ d1) hI₃ hS hl₃ (sub₉ _ d2) hI₅ hS₅ (by omega) (sub₉ _ ha) hIa hEa (sub₉ _ hb) hIb hEb (up2 (by decide) (by decide) (up (by decide) (by decide) (by decide) o7)) (up2 (by decide) (by decide) (up (by decide) (by decide) (by decide) t7)) (up2 (by decide) (by decide) (up (by decide) (by decide) (by decide) g13)) (up2 (by decide) (by decide) (up (by decide) (by decide) (by decide) g14)) ?_
  intro s₁₁ m₁₁ t₁₁ sim₁₁ F₁₁ N₁₁ g23 g24
  have e := plain05 (b := decide (es.take 1 = [0])) (b' := decide (fs.take 1 = [0])) hS hS₅ hl₅
  have e2 : dueV (fun q => standsB q one es != standsB q other fs) (3 * one.length + 19) = toldV (run (G one (decide (es.take 1 = [0]))) 0 0 (one.length + 4)) (run (G other (decide (fs.take 1 = [0]))) 0 0 (one.length + 4)) (one.length + 4) := e.symm
  rw [e2] at g23
  refine l5_end F₁₁ (g24.trans g21) g23 (fun tk => ⟨?_⟩)
  exact k { s₁₁ with toks := tk } m₁₁ ((Sim.trans (s' := s₉) ⟨os₉, ge₉⟩ sim₁₀).trans sim₁₁) F₁₁
end
end Mine
theorem PySem.Challenge.cw_dm0204_05_holds : PySem.Challenge.rw_dm0204_05.Holds := by
  refine Mine.hd05 ?_
  k_fill
  intro w s₀ s₁ mg mb G Y fa o pm cd doc dV kV ho hd hcd hD hmg hg args vals as hpre hlay hrd hwl hlo
  have KX := kIn_of Y
  refine Ground.open G ?_
  intro T B D TE TW
  try (refine guard_noD D (by decide +kernel) ?_; clear D)
  clear hmg
  wrow_args hpre hlay hrd hwl hlo
  refine enter_call ?_
  w_top on
  have K0 := below_caller (Top.heap T)
  w_call any ho hd hcd hD T F
  clear hd
  k_drop
  rename IntsAre _ _ => hI
  rename News _ _ _ _ => N
  rename Fr _ _ _ _ => F
  rename Heap.IsList _ _ _ => hl
  refine Mine.law_body K0 F N KX T rfl hl hI (by omega) ?_
  intro s' m' hs F'
  refine ⟨.inl ⟨_, _, [], rfl, fun _ => rfl, ReadsW.bool true, ?_, fun _ => ⟨List.nodup_nil, fun _ hm => (nomatch hm)⟩⟩, .of_keep F'.keep, hs.1, hs.2 (.of_eq hg)⟩
  wrow_post
