import PyProof.Rows.All
import Wide.All
import OpenK.AllK
import Wide.FinOn
import PySem.Challenge.RW_dm0204_01
open PySem PySem.W PyProof.Rows PySem.Calls
set_option Elab.async false
set_option maxRecDepth 100000
set_option maxHeartbeats 8000000
/- the plain side: what _strip_padding takes off, over lists of code points -/
namespace Mine

/-- how many blanks stand ahead -/
def lead (l : List Nat) : Nat := (l.takeWhile (· == 32)).length
def trail (l : List Nat) : Nat := lead l.reverse

theorem lead_le (l : List Nat) : lead l ≤ l.length := by
  unfold lead
  induction l with
  | nil => simp
  | cons a r ih => rw [List.takeWhile_cons]; split <;> simp <;> omega
theorem trail_le (l : List Nat) : trail l ≤ l.length := by
  have := lead_le l.reverse
  rw [List.length_reverse] at this
  exact this
theorem lead_blank {l : List Nat} {i : Nat} (h : i < lead l) : l[i]? = some 32 := by
  induction l generalizing i with
  | nil => simp [lead] at h
  | cons a r ih =>
    unfold lead at h
    rw [List.takeWhile_cons] at h
    split at h
    · rename_i ha
      cases i with
      | zero => simpa using ha
      | succ i => rw [List.getElem?_cons_succ]; exact ih (by simp at h; exact h)
    · simp at h
theorem lead_stop {l : List Nat} (h : lead l < l.length) : ∃ c, l[lead l]? = some c ∧ c ≠ 32 := by
  induction l with
  | nil => simp [lead] at h
  | cons a r ih =>
    unfold lead at h ⊢
    rw [List.takeWhile_cons] at h ⊢
    split at h
    · rename_i ha
      rw [if_pos ha]
      simp only [List.length_cons, Nat.add_lt_add_iff_right, List.getElem?_cons_succ] at h ⊢
      exact ih h
    · rename_i ha
      rw [if_neg ha]
      exact ⟨a, rfl, by simpa using ha⟩
theorem trail_blank {l : List Nat} {j : Nat} (h : j < trail l) : l[l.length - 1 - j]? = some 32 := by
  have h1 := lead_blank h
  have := trail_le l
  rw [List.getElem?_reverse (by omega)] at h1
  exact h1
theorem trail_stop {l : List Nat} (h : trail l < l.length) : ∃ c, l[l.length - 1 - trail l]? = some c ∧ c ≠ 32 := by
  obtain ⟨c, h1, h2⟩ := lead_stop (l := l.reverse) (by rw [List.length_reverse]; exact h)
  rw [List.getElem?_reverse (by exact h)] at h1
  exact ⟨c, h1, h2⟩
theorem lead_trail {l : List Nat} (h : lead l < l.length) : lead l + trail l < l.length := by
  obtain ⟨c, h1, h2⟩ := lead_stop h
  refine Nat.lt_of_not_le fun hc => h2 ?_
  have := trail_le l
  by_cases h3 : trail l = 0
  · omega
  have := trail_blank (l := l) (j := l.length - 1 - lead l) (by omega)
  rw [show l.length - 1 - (l.length - 1 - lead l) = lead l by omega, h1] at this
  exact Option.some.inj this

theorem take_blank {l : List Nat} {a : Nat} (h : a ≤ l.length) : l.take a = List.replicate a 32 ↔ a ≤ lead l := by
  constructor
  · intro e
    refine Nat.le_of_not_lt fun hc => ?_
    obtain ⟨c, h1, h2⟩ := lead_stop (l := l) (by omega)
    have : (l.take a)[lead l]? = some c := by rw [List.getElem?_take, if_pos hc]; exact h1
    rw [e, List.getElem?_replicate, if_pos hc] at this
    exact h2 (Option.some.inj this).symm
  · intro e
    apply List.ext_getElem?
    intro i
    rw [List.getElem?_take, List.getElem?_replicate]
    by_cases hi : i < a
    · rw [if_pos hi, if_pos hi, lead_blank (by omega)]
    · rw [if_neg hi, if_neg hi]
theorem drop_blank {l : List Nat} {b : Nat} (h : b ≤ l.length) : l.drop (l.length - b) = List.replicate b 32 ↔ b ≤ trail l := by
  unfold trail
  rw [← take_blank (l := l.reverse) (by rw [List.length_reverse]; exact h), List.take_reverse, ← List.reverse_inj, List.reverse_replicate]

/-- the bounds of what is left: none where an IndexError is raised -/
def stripB (l : List Nat) (n : Int) : Option (Nat × Nat) :=
  if lead l = l.length then
    if 0 ≤ n ∧ n ≤ l.length then some (n.toNat, l.length) else none
  else
    let a := if n < 0 then lead l else min (lead l) n.toNat
    let b := if n < 0 then trail l else min (trail l) (n.toNat - a)
    some (a, l.length - b)

end Mine
/- small helpers over the library's frames, ledgers and iterators -/
namespace Mine

theorem fr_stays {h₀ h h' : Heap} {L : Addr} {m : Str → Option Value} (F : Fr h₀ L h m) (k : ∀ b o, h.get? b = some o → h'.get? b = some o) : Fr h₀ L h' m :=
  ⟨F.ns.keeps k, fun b o e => k b o (F.keep b o e), F.above⟩
theorem news_stays {h₀ h h' : Heap} {L : Addr} {news : List (Addr × Obj)} (N : News h₀ L h news) (k : ∀ b o, h.get? b = some o → h'.get? b = some o) : News h₀ L h' news :=
  fun p hp => ⟨k _ _ (N p hp).1, (N p hp).2.1, (N p hp).2.2⟩
theorem news_add {h₀ h h' : Heap} {L D : Addr} {m : Str → Option Value} {o : Obj} {news : List (Addr × Obj)} (F : Fr h₀ L h m) (N : News h₀ L h' news) (hD : h'.get? D = some o) (hnew : h.get? D = none) :
    News h₀ L h' ((D, o) :: news) := by
  intro p hp
  rcases List.mem_cons.mp hp with rfl | hp
  · refine ⟨hD, ?_, ?_⟩
    · rintro rfl
      obtain ⟨oL, _, _, hL, _⟩ := F.ns
      rw [hnew] at hL; cases hL
    · cases e : h₀.get? D with
      | none => rfl
      | some o' => have := F.keep _ _ e; rw [hnew] at this; cases this
  · exact N p hp
theorem stays_but {h h₂ h' : Heap} {wr : List Addr} (k : ∀ b o, h.get? b = some o → h₂.get? b = some o) (hf : ∀ b ∈ wr, h.get? b = none)
    (hk : ∀ b o, b ∉ wr → h₂.get? b = some o → h'.get? b = some o) : ∀ b o, h.get? b = some o → h'.get? b = some o :=
  fun b o e => hk b o (fun hb => by rw [hf b hb] at e; cases e) (k b o e)
theorem fresh_size {h : Heap} {b : Addr} (hb : h.objs.size ≤ b) : h.get? b = none := by
  cases e : h.get? b with
  | none => rfl
  | some o => exact absurd (Heap.lt_size e) (Nat.not_lt.mpr hb)

theorem fresh_wr {h : Heap} : ∀ b ∈ [h.objs.size], h.get? b = none := fun b hb => by
  rcases List.mem_cons.mp hb with rfl | hb
  · exact fresh_size (Nat.le_refl _)
  · cases hb

/-- n blanks -/
def blanks (n : Nat) : Str := ⟨(List.replicate n 32).toArray⟩
theorem blanks_length (n : Nat) : (blanks n).length = n := by simp [blanks, Str.length]
theorem foldl_app_rep (x : Nat) : ∀ (n : Nat) (acc : Array Nat), ((List.replicate n #[x]).foldl (· ++ ·) acc) = acc ++ (List.replicate n x).toArray
  | 0, acc => by simp
  | n + 1, acc => by
    rw [List.replicate_succ, List.foldl_cons, foldl_app_rep x n, List.replicate_succ]
    apply Array.toList_inj.mp; simp
theorem mul_blanks {n : Int} (h : 0 ≤ n) : Txt.mul ⟨#[32]⟩ n = blanks n.toNat := by
  unfold Txt.mul
  split
  · have : n.toNat = 0 := by omega
    rw [this]; rfl
  · split
    · rename_i h1 h2
      have : n = 1 := by simpa [Str.length] using h2
      subst this; rfl
    · rw [foldl_app_rep]; simp [blanks]

section
variable {prog : Program} {w : World} {A : Around} {E : Value → Shared → Prop} {s : Shared}
theorem mul_blank {n : Int} {t u : Tok} {Q : Value → Shared → Prop} (h0 : 0 ≤ n) (h1 : n ≤ 1048576) (h : ∀ t' k, Q (.str (blanks n.toNat) t') { s with toks := k }) :
    wpAny (model prog w) A (binaryOp .Mult (.str (Str.ofString " ") t) (.int n u)) Q E s := by
  rw [show Str.ofString " " = (⟨#[32]⟩ : Str) from by decide +kernel]
  refine SB.mul ⟨?_, ?_, ?_⟩ (fun t' k => ?_)
  · simp only [Bool.or_eq_false_iff, decide_eq_false_iff_not]; omega
  · intro h2 _
    have h3 : ((⟨#[32]⟩ : Str).length : Int) = 1 := rfl
    rw [h3]
    have : (2 ^ 63 - 1) / n ≥ 1 := by
      rw [ge_iff_le, Int.le_ediv_iff_mul_le (by omega)]; omega
    omega
  · intro _ _
    have h3 : (⟨#[32]⟩ : Str).length = 1 := rfl
    rw [h3]
    unfold Builtin.Str.tooLong
    have hsl : sizeLine = 16777216 := rfl
    simp only [decide_eq_false_iff_not]
    omega
  · rw [mul_blanks h0]; exact h t' k

/-- the iterator of range(N) -/
theorem range_iter {N : Nat} {t : Tok} {Q : Value → Shared → Prop} (hN : (N : Int) < 2 ^ 62)
    (k : ∀ I h' tk, (∀ b o, s.heap.get? b = some o → h'.get? b = some o) → s.heap.get? I = none → I < h'.objs.size → IsRangeIter h' I (0 + ((0 : Nat) : Int) * 1) ((N : Int) - ((0 : Nat) : Int)) 1 → Q (.ref I) { s with heap := h', toks := tk }) :
    wpAny (model prog w) A (call (.type "range") [.int (N : Int) t]) (fun xv s₁ => wpAny (model prog w) A (pyIter xv) Q E s₁) E s := by
  refine call_range_1 (wpAny_pyIter_range (IsRange.new _ _ _ _ _ _ _) (small_one (by omega) (by omega) (by omega) hN) ?_)
  have e : Builtin.Range.rangeSize 0 (N : Int) 1 = N := by rw [rangeSize_one]; split <;> omega
  rw [e]
  refine k _ _ _ (fun b o e => Heap.get?_push_of_some _ (Heap.get?_push_of_some _ e)) (fresh_size (by rw [Heap.size_push]; exact Nat.le_succ _)) (by simp only [Heap.size_push]; exact Nat.lt_succ_self _) ?_
  have := Heap.get?_push_size (s.heap.push { cls := .type "range", data := .fields #[.int 0 s.toks, .int (N : Int) t, .int 1 (s.toks + 1)] }) (o := { cls := .type "range_iterator", data := .fields #[rawInt 0, rawInt (N : Int), rawInt 1] }) rfl
  simpa using this

theorem ints_of_range : ∀ {n : Nat} {vs : List Value} {a : Int}, vs.length = n → (∀ j v, vs[j]? = some v → ∃ t, v = Value.int (a + (j : Nat) * 1) t) → IntsAre vs ((List.range n).map fun (i : Nat) => a + (i : Int))
  | 0, [], _, _, _ => .nil
  | n + 1, v :: vs, a, hl, h => by
    obtain ⟨t, rfl⟩ := h 0 v rfl
    have r := ints_of_range (n := n) (vs := vs) (a := a + 1) (by simpa using hl) (fun j u hu => by
      obtain ⟨t, e⟩ := h (j + 1) u (by simpa using hu)
      refine ⟨t, e.trans ?_⟩
      congr 1
      omega)
    rw [List.range_succ_eq_map, List.map_cons, List.map_map]
    have e0 : a + ((0 : Nat) : Int) * 1 = a + ((0 : Nat) : Int) := by omega
    rw [e0]
    refine .cons _ t ?_
    have e : ((fun (i : Nat) => a + (i : Int)) ∘ Nat.succ) = fun (i : Nat) => a + 1 + (i : Int) := by funext i; simp; omega
    rw [e]
    exact r
theorem ints_filter {p : Value → Bool} {q : Int → Bool} (h : ∀ n t, p (Value.int n t) = q n) : ∀ {vs : List Value} {ns : List Int}, IntsAre vs ns → IntsAre (vs.filter p) (ns.filter q)
  | _, _, .nil => .nil
  | _, _, .cons n t r => by
    rw [List.filter_cons, List.filter_cons, h]
    cases q n with
    | true => simp only [if_true]; exact .cons n t (ints_filter h r)
    | false => simp only [Bool.false_eq_true, if_false]; exact ints_filter h r
theorem paired_eq : ∀ {l ys : List Value}, Paired (fun v y => y = v) l ys → ys = l
  | _, _, .nil => rfl
  | _, _, .cons h r => by rw [h, paired_eq r]

theorem walks_lt {I : Addr} {fp wr : List Addr} {n : Nat} {P : Nat → Value → Prop} {St : Nat → Heap → Prop} (W : Walks prog w A I fp wr n P St) : Walks prog w A I fp wr n (fun i v => i < n ∧ P i v) St where
  sub := W.sub
  frame := W.frame
  item := fun i s Q E hi st hQ => W.item i s Q E hi st fun v h' tk hP => hQ v h' tk ⟨hi, hP⟩
  done := W.done
  self := W.self

/-- all that stood still stands -/
theorem kept_stays (h : Heap) : KeptH (fun h' => ∀ b o, h.get? b = some o → h'.get? b = some o) := fun _ ob a b o e => Heap.get?_push_of_some ob (a b o e)
theorem slice_ns_stays {value slice : Expr} {x : Str} {t : Tok} {j : Int} {uj : Tok} {Q : Value → Shared → Prop}
    (h : ∀ h' t' k, (∀ b o, s.heap.get? b = some o → h'.get? b = some o) → Q (.str (Txt.slice x none (some j)) t') { s with heap := h', toks := k }) (hsz : x.length ≤ sizeLine)
    (hs : subscripted slice false (.str x t) (.ref s.heap.objs.size) = operate [.ref s.heap.objs.size, .str x t] (getItem (.str x t) (.ref s.heap.objs.size)) := by with_unfolding_all rfl)
    (ht : ∀ r, letTemporaryGo value (.str x t) r = pure () := by intro _; with_unfolding_all rfl) :
    wpAny (model prog w) A (subscriptTail value slice (.str x t) (.ref s.heap.objs.size)) Q E { s with heap := s.heap.push { cls := .type "slice", data := .fields #[.none, .int j uj, .none] } } :=
  tail_of_ItemOn (SBH.sliceItem_ns (kept_stays s.heap) (fun _ _ e => e) h hsz) hs ht
theorem slice_sn_stays {value slice : Expr} {x : Str} {t : Tok} {i : Int} {ui : Tok} {Q : Value → Shared → Prop}
    (h : ∀ h' t' k, (∀ b o, s.heap.get? b = some o → h'.get? b = some o) → Q (.str (Txt.slice x (some i) none) t') { s with heap := h', toks := k }) (hsz : x.length ≤ sizeLine)
    (hs : subscripted slice false (.str x t) (.ref s.heap.objs.size) = operate [.ref s.heap.objs.size, .str x t] (getItem (.str x t) (.ref s.heap.objs.size)) := by with_unfolding_all rfl)
    (ht : ∀ r, letTemporaryGo value (.str x t) r = pure () := by intro _; with_unfolding_all rfl) :
    wpAny (model prog w) A (subscriptTail value slice (.str x t) (.ref s.heap.objs.size)) Q E { s with heap := s.heap.push { cls := .type "slice", data := .fields #[.int i ui, .none, .none] } } :=
  tail_of_ItemOn (SBH.sliceItem_sn (kept_stays s.heap) (fun _ _ e => e) h hsz) hs ht
theorem slice_ss_stays {value slice : Expr} {x : Str} {t : Tok} {i j : Int} {ui uj : Tok} {Q : Value → Shared → Prop}
    (h : ∀ h' t' k, (∀ b o, s.heap.get? b = some o → h'.get? b = some o) → Q (.str (Txt.slice x (some i) (some j)) t') { s with heap := h', toks := k }) (hsz : x.length ≤ sizeLine)
    (hs : subscripted slice false (.str x t) (.ref s.heap.objs.size) = operate [.ref s.heap.objs.size, .str x t] (getItem (.str x t) (.ref s.heap.objs.size)) := by with_unfolding_all rfl)
    (ht : ∀ r, letTemporaryGo value (.str x t) r = pure () := by intro _; with_unfolding_all rfl) :
    wpAny (model prog w) A (subscriptTail value slice (.str x t) (.ref s.heap.objs.size)) Q E { s with heap := s.heap.push { cls := .type "slice", data := .fields #[.int i ui, .int j uj, .none] } } :=
  tail_of_ItemOn (SBH.sliceItem_ss (kept_stays s.heap) (fun _ _ e => e) h hsz) hs ht
theorem in_one {P : Addr → Prop} {I : Addr} (h : P I) : ∀ b ∈ [I], P b := fun b hb => by
  rcases List.mem_cons.mp hb with rfl | hb
  · exact h
  · cases hb
end
end Mine
namespace Mine
set_option maxRecDepth 100000 in
set_option maxHeartbeats 8000000 in
open_top hd01 for PySem.Challenge.rw_dm0204_01
end Mine
namespace Mine

theorem item_eq {x : Str} {i : Nat} (h : i < x.length) : (Txt.item x (i : Int) == (⟨#[32]⟩ : Str)) = (x.cps.toList[i]? == some 32) := by
  have hi : seqIndex? (i : Int) x.length = some i := by
    rw [seqIndex_of (by omega) (by omega)]; simp
  have : Txt.charAt x (i : Int) = x.cps[i]? := by unfold Txt.charAt; rw [hi]; rfl
  unfold Txt.item
  rw [this]
  have hi' : i < x.cps.size := h
  rw [Array.getElem?_toList, Array.getElem?_eq_getElem hi']
  simp only [Option.getD_some]
  by_cases hc : x.cps[i] = 32
  · rw [hc]; rfl
  · rw [Bool.eq_iff_iff]; simp [hc]

section
variable {prog : Program} {w : World} {A : Around} {E : Value → Shared → Prop} {s : Shared} {h₀ : Heap} {L a : Addr} {m : Str → Option Value} {news : List (Addr × Obj)} {name : Str} {scope : Scope} {cd : Value}

/-- «n and x[i] == ' '» -/
theorem strip_test {x : Str} {t ti ta : Tok} {i n : Int} {nA nS nI : Str} {p1 p2 p3 p4 p5 p6 p7 : Pos} {k7 : Nat} {whole : Sem Value} {Q : Bool → Shared → Prop}
    (F : Fr h₀ L s.heap m) (hm : m nA = some (.int n ta)) (hs : m nS = some (.str x t)) (hi : m nI = some (.int i ti)) (hA : A.handled = none) (hr : fitsSsize i = true)
    (h0 : n = 0 → Q false s)
    (h1 : n ≠ 0 → ∀ tk, -(x.length : Int) ≤ i → i < x.length → Q (Txt.item x i == ⟨#[32]⟩) { s with toks := tk })
    (h2 : n ≠ 0 → (i < -(x.length : Int) ∨ (x.length : Int) ≤ i) → ∀ h' tk e, Heap.NewExc s.heap h' e "IndexError" → E (.ref e) { s with heap := h', toks := tk })
    (hk : scope.kind = .function) (hl1 : (envOf name scope L a cd).kindOf nA = some .local) (hl2 : (envOf name scope L a cd).kindOf nS = some .local) (hl3 : (envOf name scope L a cd).kindOf nI = some .local)
    (hd1 : (nA == ("__debug__" : Str)) = false) (hd2 : (nS == ("__debug__" : Str)) = false) (hd3 : (nI == ("__debug__" : Str)) = false) :
    wpAny (model prog w) A (isTrue (.BoolOp .And [.Name nA p1, .Compare (.Subscript (.Name nS p2) (.Name nI p3) p4) [.Eq] [.Constant (.str " ") k7 p5] p6] p7) (envOf name scope L a cd) whole) Q E s := by
  refine isTrue_and (isTrue_plain (ld F hm (truthy_int ?_) hk hl1 hd1))
  by_cases hn : n = 0
  · subst hn
    simp only [bne_self_eq_false, Bool.false_eq_true, if_false]
    exact h0 rfl
  · rw [if_pos (by simpa using hn)]
    refine isTrue_and (wpAny_isTrue_Compare1 (Subscript_ (ld F hs (ld F hi (item_str_or hA hr (fun ho h' tk e hx => h2 hn ho h' tk e hx) fun hlo hhi => ?_) hk hl3 hd3) hk hl2 hd2)))
    refine Constant_str (eq_str (wpAny_truthy_bool ?_))
    have e : (Txt.item x i == Str.ofString " ") = (Txt.item x i == ⟨#[32]⟩) := by
      rw [show Str.ofString " " = (⟨#[32]⟩ : Str) from by decide +kernel]
    rw [e]
    have q := h1 hn (s.toks + 1 + 1) hlo hhi
    cases hb : (Txt.item x i == (⟨#[32]⟩ : Str)) with
    | true => rw [hb] at q; exact isTrue_and_nil q
    | false => rw [hb] at q; exact q

/-- «i += 1 ; n -= 1» and «i -= 1 ; n -= 1» -/
theorem strip_turn {i n : Int} {ti ta : Tok} {nA nI : Str} {op : Operator} {p1 p2 p3 p4 p5 p6 : Pos} {k1 k2 : Nat} {Q : Flow → Shared → Prop} {j : Int}
    (F : Fr h₀ L s.heap m) (N : News h₀ L s.heap news) (hm : m nA = some (.int n ta)) (hi : m nI = some (.int i ti)) (hne : nA ≠ nI)
    (hop : (op = .Add ∧ j = i + 1) ∨ (op = .Sub ∧ j = i - 1))
    (h : ∀ h' tk t1 t2 m', Fr h₀ L h' m' → News h₀ L h' news → m' nA = some (.int (n - 1) t1) → m' nI = some (.int j t2) → (∀ y, y ≠ nA → y ≠ nI → m' y = m y) → Q .next { s with heap := h', toks := tk })
    (hk : scope.kind = .function) (hl1 : (envOf name scope L a cd).kindOf nA = some .local) (hl3 : (envOf name scope L a cd).kindOf nI = some .local) :
    wpAny (model prog w) A (execs [.AugAssign (.Name nI p1) op (.Constant (.int 1) k1 p2) p3, .AugAssign (.Name nA p4) .Sub (.Constant (.int 1) k2 p5) p6] (envOf name scope L a cd)) Q E s := by
  have last : ∀ (s' : Shared) (t' : Tok), Fr h₀ L s'.heap (fun y => if y = nI then some (.int j t') else m y) → News h₀ L s'.heap news → s'.gens = s.gens → s'.drawn = s.drawn → s'.os = s.os →
      wpAny (model prog w) A (execs [.AugAssign (.Name nA p4) .Sub (.Constant (.int 1) k2 p5) p6] (envOf name scope L a cd)) Q E s' := by
    intro s' t' F' N' e1 e2 e3
    refine wpAny_execs_cons (wpAny_AugAssign_Name (ldn F' (by rw [if_neg hne]; exact hm) (wpAny_Constant_int (PyProof.Rows.isub_int ?_)) hk hl1))
    refine stN F' N' (fun h'' F'' N'' => wpAny_execs_nil ?_) hk hl1
    obtain ⟨hp, gs, dr, tks, os⟩ := s'
    cases e1; cases e2; cases e3
    exact h h'' _ _ _ _ F'' N'' (if_pos rfl) (by rw [if_neg (Ne.symm hne), if_pos rfl]) (fun y hy hy' => by rw [if_neg hy, if_neg hy'])
  rcases hop with ⟨rfl, rfl⟩ | ⟨rfl, rfl⟩
  · refine wpAny_execs_cons (wpAny_AugAssign_Name (ldn F hi (wpAny_Constant_int (PyProof.Rows.iadd_int ?_)) hk hl3))
    refine stN F N (fun h' F' N' => ?_) hk hl3
    exact last _ _ F' N' rfl rfl rfl
  · refine wpAny_execs_cons (wpAny_AugAssign_Name (ldn F hi (wpAny_Constant_int (PyProof.Rows.isub_int ?_)) hk hl3))
    refine stN F N (fun h' F' N' => ?_) hk hl3
    exact last _ _ F' N' rfl rfl rfl

abbrev tst (nA nS nI : Str) (p1 p2 p3 p4 p5 p6 p7 : Pos) (k : Nat) : Expr := .BoolOp .And [.Name nA p1, .Compare (.Subscript (.Name nS p2) (.Name nI p3) p4) [.Eq] [.Constant (.str " ") k p5] p6] p7

theorem strip_front {x : Str} {n : Int} {t ti ta : Tok} {nA nS nI : Str} {p1 p2 p3 p4 p5 p6 p7 q1 q2 q3 q4 q5 q6 pw : Pos} {k1 k2 k7 : Nat} {Q : Flow → Shared → Prop}
    (F : Fr h₀ L s.heap m) (N : News h₀ L s.heap news) (hm : m nA = some (.int n ta)) (hs : m nS = some (.str x t)) (hi : m nI = some (.int 0 ti)) (hA : A.handled = none) (hsz : x.length < 2 ^ 62)
    (hne : nA ≠ nI) (hne2 : nS ≠ nA) (hne3 : nS ≠ nI)
    (hQ : ∀ (k : Nat) h' tk t1 t2 m', k ≤ lead x.cps.toList → (0 ≤ n → (k : Int) ≤ n) → (n - k = 0 ∨ (k = lead x.cps.toList ∧ lead x.cps.toList < x.length)) → Fr h₀ L h' m' → News h₀ L h' news →
      m' nA = some (.int (n - k) t1) → m' nI = some (.int k t2) → (∀ y, y ≠ nA → y ≠ nI → m' y = m y) → Q .next { s with heap := h', toks := tk })
    (hX : lead x.cps.toList = x.length → ¬ (0 ≤ n ∧ n ≤ x.length) → ∀ h h' tk e m', Fr h₀ L h m' → News h₀ L h news → Heap.NewExc h h' e "IndexError" → E (.ref e) { s with heap := h', toks := tk })
    (hE : PassesOwn (model prog w) A (envOf name scope L a cd) E)
    (hk : scope.kind = .function) (hl1 : (envOf name scope L a cd).kindOf nA = some .local) (hl2 : (envOf name scope L a cd).kindOf nS = some .local) (hl3 : (envOf name scope L a cd).kindOf nI = some .local)
    (hd1 : (nA == ("__debug__" : Str)) = false) (hd2 : (nS == ("__debug__" : Str)) = false) (hd3 : (nI == ("__debug__" : Str)) = false) :
    wpAny (model prog w) A (exec (.While (tst nA nS nI p1 p2 p3 p4 p5 p6 p7 k7) [.AugAssign (.Name nI q1) .Add (.Constant (.int 1) k1 q2) q3, .AugAssign (.Name nA q4) .Sub (.Constant (.int 1) k2 q5) q6] [] pw) (envOf name scope L a cd)) Q E s := by
  have hlen : x.cps.toList.length = x.length := by simp [Str.length]
  have hll := lead_le x.cps.toList
  refine While_inv (fun j m₁ news₁ => ∃ (k : Nat) (t1 t2 : Tok), j = x.length - k ∧ news₁ = news ∧ k ≤ lead x.cps.toList ∧ (0 ≤ n → (k : Int) ≤ n) ∧ m₁ nA = some (.int (n - k) t1) ∧ m₁ nI = some (.int k t2) ∧ (∀ y, y ≠ nA → y ≠ nI → m₁ y = m y)) (n₀ := x.length) F N
    ⟨0, ta, ti, by simp, rfl, by omega, by simp, by simpa using hm, by simpa using hi, fun _ _ _ => rfl⟩ ?_ hE
  rintro j m₁ news₁ h₁ tk₁ F₁ N₁ ⟨k, t1, t2, rfl, rfl, hk1, hk2, e1, e2, e3⟩
  refine strip_test (s := { s with heap := h₁, toks := tk₁ }) F₁ e1 ((e3 nS hne2 hne3).trans hs) e2 hA ?_ ?_ ?_ ?_ hk hl1 hl2 hl3 hd1 hd2 hd3
  · unfold fitsSsize
    simp only [Bool.not_eq_true', Bool.or_eq_false_iff, decide_eq_false_iff_not]
    omega
  · intro h0
    rw [if_neg Bool.false_ne_true]
    exact hQ k h₁ tk₁ t1 t2 m₁ hk1 hk2 (.inl h0) F₁ N₁ e1 e2 e3
  · intro h0 tk hlo hhi
    have hkx : k < x.length := by omega
    rw [item_eq hkx]
    by_cases hk3 : k < lead x.cps.toList
    · have hb := lead_blank hk3
      rw [hb]
      simp only [beq_self_eq_true, if_true]
      refine strip_turn (s := { s with heap := h₁, toks := tk }) (j := (k : Int) + 1) F₁ N₁ e1 e2 hne (.inl ⟨rfl, rfl⟩) ?_ hk hl1 hl3
      intro h' tk' u1 u2 m' F' N' g1 g2 g3
      refine WhileStep.intro (n' := x.length - (k + 1)) F' N' (by omega) ⟨k + 1, u1, u2, rfl, rfl, by omega, by omega, ?_, ?_, fun y hy hy' => (g3 y hy hy').trans (e3 y hy hy')⟩
      · rw [g1]; congr 2; omega
      · rw [g2]; congr 2
    · have hk4 : k = lead x.cps.toList := by omega
      obtain ⟨c, c1, c2⟩ := lead_stop (l := x.cps.toList) (by omega)
      rw [hk4, c1]
      have : (some c == some 32) = false := by simpa using c2
      rw [this, if_neg Bool.false_ne_true]
      exact hQ k h₁ tk t1 t2 m₁ hk1 hk2 (.inr ⟨hk4, by omega⟩) F₁ N₁ e1 e2 e3
  · intro h0 ho h' tk e hx
    have hk5 : x.length ≤ k := by omega
    exact hX (by omega) (by omega) h₁ h' tk e m₁ F₁ N₁ hx

theorem strip_back {x : Str} {n : Int} {t ti ta : Tok} {nA nS nI : Str} {p1 p2 p3 p4 p5 p6 p7 q1 q2 q3 q4 q5 q6 pw : Pos} {k1 k2 k7 : Nat} {Q : Flow → Shared → Prop}
    (F : Fr h₀ L s.heap m) (N : News h₀ L s.heap news) (hm : m nA = some (.int n ta)) (hs : m nS = some (.str x t)) (hi : m nI = some (.int ((x.length : Int) - 1) ti)) (hA : A.handled = none) (hsz : x.length < 2 ^ 62)
    (hne : nA ≠ nI) (hne2 : nS ≠ nA) (hne3 : nS ≠ nI) (hst : n = 0 ∨ lead x.cps.toList < x.length)
    (hQ : ∀ (j : Nat) h' tk t1 t2 m', j ≤ trail x.cps.toList → (n = 0 → j = 0) → (0 ≤ n → (j : Int) ≤ n) → (n - j = 0 ∨ j = trail x.cps.toList) → Fr h₀ L h' m' → News h₀ L h' news →
      m' nA = some (.int (n - j) t1) → m' nI = some (.int ((x.length : Int) - 1 - j) t2) → (∀ y, y ≠ nA → y ≠ nI → m' y = m y) → Q .next { s with heap := h', toks := tk })
    (hE : PassesOwn (model prog w) A (envOf name scope L a cd) E)
    (hk : scope.kind = .function) (hl1 : (envOf name scope L a cd).kindOf nA = some .local) (hl2 : (envOf name scope L a cd).kindOf nS = some .local) (hl3 : (envOf name scope L a cd).kindOf nI = some .local)
    (hd1 : (nA == ("__debug__" : Str)) = false) (hd2 : (nS == ("__debug__" : Str)) = false) (hd3 : (nI == ("__debug__" : Str)) = false) :
    wpAny (model prog w) A (exec (.While (tst nA nS nI p1 p2 p3 p4 p5 p6 p7 k7) [.AugAssign (.Name nI q1) .Sub (.Constant (.int 1) k1 q2) q3, .AugAssign (.Name nA q4) .Sub (.Constant (.int 1) k2 q5) q6] [] pw) (envOf name scope L a cd)) Q E s := by
  have hlen : x.cps.toList.length = x.length := by simp [Str.length]
  have hll := trail_le x.cps.toList
  have htr : n = 0 ∨ trail x.cps.toList < x.length := hst.imp id fun h => by have := lead_trail (l := x.cps.toList) (by omega); omega
  refine While_inv (fun i m₁ news₁ => ∃ (j : Nat) (t1 t2 : Tok), i = x.length - j ∧ news₁ = news ∧ j ≤ trail x.cps.toList ∧ (n = 0 → j = 0) ∧ (0 ≤ n → (j : Int) ≤ n) ∧ m₁ nA = some (.int (n - j) t1) ∧ m₁ nI = some (.int ((x.length : Int) - 1 - j) t2) ∧ (∀ y, y ≠ nA → y ≠ nI → m₁ y = m y)) (n₀ := x.length) F N
    ⟨0, ta, ti, by simp, rfl, by omega, fun _ => rfl, by simp, by simpa using hm, by simpa using hi, fun _ _ _ => rfl⟩ ?_ hE
  rintro i m₁ news₁ h₁ tk₁ F₁ N₁ ⟨j, t1, t2, rfl, rfl, hk1, hk0, hk2, e1, e2, e3⟩
  refine strip_test (s := { s with heap := h₁, toks := tk₁ }) F₁ e1 ((e3 nS hne2 hne3).trans hs) e2 hA ?_ ?_ ?_ ?_ hk hl1 hl2 hl3 hd1 hd2 hd3
  · unfold fitsSsize
    simp only [Bool.not_eq_true', Bool.or_eq_false_iff, decide_eq_false_iff_not]
    omega
  · intro h0
    rw [if_neg Bool.false_ne_true]
    exact hQ j h₁ tk₁ t1 t2 m₁ hk1 hk0 hk2 (.inl h0) F₁ N₁ e1 e2 e3
  · intro h0 tk hlo hhi
    have hn0 : n ≠ 0 := fun q => h0 (by have := hk0 q; omega)
    have htr := htr.resolve_left hn0
    have hix : ((x.length : Int) - 1 - j) = ((x.length - 1 - j : Nat) : Int) := by omega
    rw [hix, item_eq (by omega)]
    by_cases hk3 : j < trail x.cps.toList
    · have hb := trail_blank hk3
      rw [hlen] at hb
      rw [hb]
      simp only [beq_self_eq_true, if_true]
      refine strip_turn (s := { s with heap := h₁, toks := tk }) (j := (x.length : Int) - 1 - j - 1) F₁ N₁ e1 e2 hne (.inr ⟨rfl, rfl⟩) ?_ hk hl1 hl3
      intro h' tk' u1 u2 m' F' N' g1 g2 g3
      refine WhileStep.intro (n' := x.length - (j + 1)) F' N' (by omega) ⟨j + 1, u1, u2, rfl, rfl, by omega, fun q => absurd q hn0, by omega, ?_, ?_, fun y hy hy' => (g3 y hy hy').trans (e3 y hy hy')⟩
      · rw [g1]; congr 2; omega
      · rw [g2]; congr 2; omega
    · have hk4 : j = trail x.cps.toList := by omega
      obtain ⟨c, c1, c2⟩ := trail_stop (l := x.cps.toList) (by omega)
      rw [hk4, ← hlen, c1]
      have : (some c == some 32) = false := by simpa using c2
      rw [this, if_neg Bool.false_ne_true]
      exact hQ j h₁ tk t1 t2 m₁ hk1 hk0 hk2 (.inr hk4) F₁ N₁ e1 e2 e3
  · intro h0 ho h' tk e hx
    have hn0 : n ≠ 0 := fun q => h0 (by have := hk0 q; omega)
    have htr := htr.resolve_left hn0
    omega
end
end Mine
namespace Mine

theorem strip01 {prog : Program} {w : World} {A A₀ : Around} {E : Value → Shared → Prop} {s : Shared} {h₀ base : Heap} {L : Addr} {m mg mb : Str → Option Value} {news : List (Addr × Obj)} {p : Program} {loose : List Str} {mean : ExcName → Option Value} {Q : Value → Shared → Prop} {env : Env} {outer : List Env}
    {x : Str} {n : Int} {t tn : Tok}
    (B : Below A₀ base outer h₀) (F : Fr h₀ L s.heap m) (X₀ : (Mine.hd01.heap_39 w.params).In h₀) (N : News h₀ L s.heap news) (T : Top p loose mean mg mb h₀) (hA : A.frames = some (env :: outer)) (hf : env.frame = some L) (hke : env.scope.kind = .function)
    (hroom : A.depth < recursionLimit) (hh : A.handled = none) (hsz : x.length ≤ sizeLine)
    (hQ : ∀ a b h' tk t', stripB x.cps.toList n = some (a, b) → Fr h₀ L h' m → News h₀ L h' news → Q (.str (Txt.slice x (some (a : Int)) (some (b : Int))) t') { s with heap := h', toks := tk })
    (hE : ∀ g h' tk e, stripB x.cps.toList n = none → Fr h₀ L g m → g.UpToSlots h' → RaisedN base (env :: outer) e (.type "IndexError") news h' → E (.ref e) { s with heap := h', toks := tk }) :
    wpAny (model prog w) A (call (.ref 21) [.str x t, .int n tn]) Q E s := by
  have hsl : sizeLine = 16777216 := rfl
  refine wpAny_call (code_def (K := Mine.hd01.heap_39 w.params) B F X₀ N T hA hf hke rfl rfl hroom (BindsTo.of_eq rfl) (locs rfl) ?_ rfl rfl rfl (by decide))
  intro g L' h₁ FG F' N' B' X' T'
  dsimp only
  refine wpAny_execs_cons (wpAny_Assign_Name (wpAny_Constant_int (stN F' N' (fun h₂ F₂ N₂ => ?_))))
  dsimp only
  refine wpAny_execs_cons (strip_front F₂ N₂ rfl rfl rfl hh (by omega) (by decide) (by decide) (by decide) ?_ ?_ (by passes_own) rfl rfl rfl rfl (by decide) (by decide) (by decide))
  · intro k h₃ tk₃ t1 t2 m₃ hk1 hk2 hk3 F₃ N₃ e1 e2 e3
    dsimp only
    refine wpAny_execs_cons (wpAny_Assign_Name (wpAny_BinOp (Call_ (nameX_B (cl := []) F₃ X' (topRead_of T') rfl boot_len (by decide) ?_))))
    refine callWith_builtin1 (args_cons (ld F₃ ((e3 _ (by decide) (by decide)).trans rfl) (args_nil ?_)))
    refine PyProof.Rows.len_str (by omega) (wpAny_Constant_int (PyProof.Rows.sub_int (stN F₃ N₃ (fun h₄ F₄ N₄ => ?_))))
    dsimp only
    refine wpAny_execs_cons (strip_back F₄ N₄ ((if_neg (by decide)).trans e1) ((if_neg (by decide)).trans ((e3 _ (by decide) (by decide)).trans rfl)) rfl hh (by omega) (by decide) (by decide) (by decide) (hk3.imp id fun h => h.2) ?_ (by passes_own) rfl rfl rfl rfl (by decide) (by decide) (by decide))
    intro j h₅ tk₅ u1 u2 m₅ hj0 hj1 hj2 hj3 F₅ N₅ g1 g2 g3
    dsimp only
    refine wpAny_execs_cons (wpAny_Return_some (Subscript_ (ld F₅ ((g3 _ (by decide) (by decide)).trans ((if_neg (by decide)).trans ((e3 _ (by decide) (by decide)).trans rfl))) ?_)))
    refine wpAny_Slice (evalPart_some_step (ld F₅ ((g3 _ (by decide) (by decide)).trans ((if_neg (by decide)).trans e2)) ?_))
    refine evalPart_some_step (wpAny_BinOp (ld F₅ g2 (wpAny_Constant_int (PyProof.Rows.add_int ?_))))
    refine evalPart_none_step ?_
    refine slice_strN_ss F₅ N₅ ?_ (hsz := hsz)
    intro h₆ t₆ tk₆ F₆ N₆
    refine leaveK_ F₆ N₆ fun F₇ N₇ => ?_
    have hlen : x.cps.toList.length = x.length := by simp [Str.length]
    have hll := lead_le x.cps.toList
    have htl := trail_le x.cps.toList
    have hb : stripB x.cps.toList n = some (k, x.length - j) := by
      unfold stripB
      rw [hlen]
      by_cases hl : lead x.cps.toList = x.length
      · rw [if_pos hl]
        have hnk : n - k = 0 := hk3.resolve_right (by omega)
        have := hj1 hnk
        rw [if_pos (by omega)]
        congr 2 <;> omega
      · rw [if_neg hl]
        dsimp only
        have ea : (if n < 0 then lead x.cps.toList else min (lead x.cps.toList) n.toNat) = k := by
          split <;> omega
        rw [ea]
        have eb : (if n < 0 then trail x.cps.toList else min (trail x.cps.toList) (n.toNat - k)) = j := by
          split <;> omega
        rw [eb]
    have hv := hQ k (x.length - j) h₆ tk₆ t₆ hb F₇ N₇
    rw [show (((x.length - j : Nat) : Int)) = (x.length : Int) - 1 - j + 1 by omega] at hv
    exact hv
  · intro hl hn h h' tk e m' F₃ N₃ hx
    dsimp only
    refine leave_newK B' hx F₃ N₃ fun h₄ R hup => ?_
    refine hE g h₄ tk e ?_ FG hup R
    unfold stripB
    rw [show x.cps.toList.length = x.length by simp [Str.length], if_pos hl, if_neg hn]
end Mine
namespace Mine

def fnBody (p : Program) (i : Nat) : List Stmt := match p.main.body[i]? with
  | some (.FunctionDef _ _ b _ _ _ _ _ _ _) => b
  | _ => []
def fnScope (p : Program) (i : Nat) : Scope := match p.main.body[i]? with
  | some (.FunctionDef _ _ _ _ _ _ s _ _ _) => s
  | _ => default
def lawB : List Stmt := fnBody PySem.Challenge.pw_dm0204_01 3
def lawS : Scope := fnScope PySem.Challenge.pw_dm0204_01 3
abbrev lawE (L fa : Addr) (cd : Value) : Env := envOfC "law" lawS L fa cd

section
variable {prog : Program} {w : World} {A : Around} {E : Value → Shared → Prop} {s : Shared} {h₀ : Heap} {L fa : Addr} {m mg mb : Str → Option Value} {news : List (Addr × Obj)} {cd : Value} {Q : Flow → Shared → Prop} {p : Program} {loose : List Str}

theorem four_of {vs : List Value} {ns : List Int} (h : IntsAre vs ns) (hl : ns.length = 4) : ∃ a b c d t1 t2 t3 t4, vs = [.int a t1, .int b t2, .int c t3, .int d t4] := by
  cases h with
  | nil => simp at hl
  | cons a t1 h => cases h with
    | nil => simp at hl
    | cons b t2 h => cases h with
      | nil => simp at hl
      | cons c t3 h => cases h with
        | nil => simp at hl
        | cons d t4 h => cases h with
          | nil => exact ⟨a, b, c, d, t1, t2, t3, t4, rfl⟩
          | cons _ _ _ => simp at hl

theorem st1 {l : Addr} {vs : List Value} {ns : List Int} (F : Fr h₀ L s.heap m) (N : News h₀ L s.heap news) (X : (Mine.hd01.heap_39 w.params).In h₀) (T : TopRead p loose mg mb h₀)
    (hm : m "script" = some (.ref l)) (hl : h₀.IsList l vs.toArray) (hI : IntsAre vs ns) (hlen : ns.length ≤ 63) (hh : A.handled = none)
    (k : ∀ h' tk a b c d t1 t2 t3 t4 m', Fr h₀ L h' m' → News h₀ L h' news → m' "first" = some (.int a t1) → m' "second" = some (.int b t2) → m' "third" = some (.int c t3) → m' "fourth" = some (.int d t4) → m' "script" = some (.ref l) →
      wpAny (model prog w) A (execs (lawB.drop 1) (lawE L fa cd)) Q E { s with heap := h', toks := tk }) :
    wpAny (model prog w) A (execs lawB (lawE L fa cd)) Q E s := by
  have hll : s.heap.IsList l vs.toArray := stays_list F.keep hl
  have hvl : vs.length = ns.length := hI.length
  have hsl : sizeLine = 16777216 := rfl
  refine wpAny_execs_cons (Assign_Tuple (Subscript_ (wpAny_BinOp (nameX_L F hm (Subscript_ ?_)))))
  refine List_ (args_cons (wpAny_Constant_int (args_cons (wpAny_Constant_int (args_cons (wpAny_Constant_int (args_cons (wpAny_Constant_int (args_nil ?_)))))))))
  refine newList_N F N (fun h₁ F₁ N₁ => ?_)
  refine wpAny_Slice (evalPart_some_step (Call_ (nameX_B F₁ X T rfl boot_len (by decide) ?_)))
  refine callWith_builtin1 (args_cons (nameX_L F₁ hm (args_nil ?_)))
  refine len_list (stays_list F₁.keep hl) (by simp only [List.size_toArray]; omega) (evalPart_none_step (evalPart_none_step ?_))
  refine kba_turn (value' := PySem.Expr.Name (PySem.Str.ofString "_") ⟨0, 0, 0, 0⟩) (fun _ => rfl) ?_
  refine kmk_slice (s := { s with heap := h₁, toks := _ }) F₁ N₁ (News.isList N₁ (.head _)) (.int _ _) .none (fun D₂ h₂ F₂ N₂ l₂ => ?_) rfl (fun _ => rfl) (by show 4 ≤ sizeLine; omega)
  have hI2 : IntsAre (slicePick [Value.int 9 s.toks, .int 2 (s.toks + 1), .int 3 (s.toks + 1 + 1), .int 1 (s.toks + 1 + 1 + 1)].toArray (some ((vs.toArray.size : Nat) : Int)) none none).toList (([9, 2, 3, 1] : List Int).drop ns.length) := by
    have := kmk_from (x := ((vs.toArray.size : Nat) : Int)) (.cons 9 s.toks (.cons 2 (s.toks + 1) (.cons 3 (s.toks + 1 + 1) (.cons 1 (s.toks + 1 + 1 + 1) .nil)))) (by omega)
    simpa [hvl] using this
  have hl4 : (([9, 2, 3, 1] : List Int).drop ns.length).length ≤ 4 := by simp
  have hL2 : h₂.IsList D₂ (slicePick [Value.int 9 s.toks, .int 2 (s.toks + 1), .int 3 (s.toks + 1 + 1), .int 1 (s.toks + 1 + 1 + 1)].toArray (some ((vs.toArray.size : Nat) : Int)) none none).toList.toArray := by
    rw [Array.toArray_toList]; exact News.isList N₂ (.head _)
  refine add_lists F₂ N₂ (stays_list F₂.keep hl) hL2 (fun h₃ F₃ N₃ => ?_) ?_
  · refine wpAny_Slice (evalPart_none_step (evalPart_some_step (wpAny_Constant_int (evalPart_none_step ?_))))
    refine kba_turn (value' := PySem.Expr.Name (PySem.Str.ofString "_") ⟨0, 0, 0, 0⟩) (fun _ => rfl) ?_
    have hI3 := hI.append hI2
    refine kmk_slice (s := { s with heap := h₃, toks := _ }) F₃ N₃ (News.isList N₃ (.head _)) .none (.int _ _) (fun D₄ h₄ F₄ N₄ l₄ => ?_) rfl (fun _ => rfl) (by rw [List.size_toArray, hI3.length, List.length_append]; omega)
    have hI4 := kmk_upto (y := 4) hI3 (by omega)
    obtain ⟨a, b, c, d, t1, t2, t3, t4, e4⟩ := four_of hI4 (by
      rw [List.length_take, List.length_append, List.length_drop]
      show min 4 _ = 4
      simp only [List.length_cons, List.length_nil]
      omega)
    refine kun_list F₄ N₄ (News.isList N₄ (.head _)) hh ?_ rfl (fun h₅ F₅ N₅ => ?_)
    · rw [← Array.length_toList, e4]; rfl
    · rw [e4]
      refine assignInOrder_cons (assign_Name (storeX_L F₅ N₅ (fun h₆ F₆ N₆ => ?_)))
      refine assignInOrder_cons (assign_Name (storeX_L F₆ N₆ (fun h₇ F₇ N₇ => ?_)))
      refine assignInOrder_cons (assign_Name (storeX_L F₇ N₇ (fun h₈ F₈ N₈ => ?_)))
      refine assignInOrder_cons (assign_Name (storeX_L F₈ N₈ (fun h₉ F₉ N₉ => assignInOrder_nil ?_)))
      refine k h₉ _ a b c d t1 t2 t3 t4 _ F₉ (fun q hq => N₉ q ?_) rfl rfl rfl rfl ?_
      · exact .tail _ (.tail _ (.tail _ (.tail _ hq)))
      · exact hm
  · rw [hI2.length]; omega
end
end Mine
namespace Mine
section
variable {prog : Program} {w : World} {A : Around} {E : Value → Shared → Prop} {s : Shared} {h₀ : Heap} {L fa : Addr} {m mg mb : Str → Option Value} {news : List (Addr × Obj)} {cd : Value} {Q : Flow → Shared → Prop} {p : Program} {loose : List Str}

theorem fmod_range {a b : Int} (hb : 0 < b) : 0 ≤ a.fmod b ∧ a.fmod b < b := ⟨Int.fmod_nonneg_of_pos a hb, Int.fmod_lt_of_pos a hb⟩

/-- the three cells of the law -/
abbrev cells (L : Addr) (o1 o2 o3 : Obj) : List (Addr × Obj) := [(L + 1 + 1 + 1, o3), (L + 1 + 1, o2), (L + 1, o1)]

/-- text = ' ' * (second % 12) + middle + ' ' * (third % 12) -/
theorem st_text {o1 o2 o3 : Obj} {x : Str} {tx : Tok} {b c : Int} {t2 t3 : Tok} (F : Fr h₀ L s.heap m) (N : News h₀ L s.heap (cells L o1 o2 o3))
    (hd2 : ∃ v, o2.data = .cell v) (hb : m "second" = some (.int b t2)) (hc : m "third" = some (.int c t3)) (hmid : m "middle" = some (.str x tx)) (hx : x.length ≤ 200)
    (k : ∀ h' tk y ty o', Fr h₀ L h' m → News h₀ L h' (cells L o1 o' o3) → o'.data = .cell (some (.str y ty)) → y.length ≤ 300 → wpAny (model prog w) A (execs (lawB.drop 5) (lawE L fa cd)) Q E { s with heap := h', toks := tk }) :
    wpAny (model prog w) A (execs (lawB.drop 4) (lawE L fa cd)) Q E s := by
  have hsl : sizeLine = 16777216 := rfl
  have r1 := fmod_range (a := b) (b := 12) (by decide)
  have r2 := fmod_range (a := c) (b := 12) (by decide)
  refine wpAny_execs_cons (wpAny_Assign_Name (wpAny_BinOp (wpAny_BinOp (wpAny_BinOp (Constant_str (wpAny_BinOp (nameX_L F hb (wpAny_Constant_int (mod_int' (by decide) ?_)))))))))
  refine mul_blank r1.1 (by omega) (fun u1 k1 => nameX_L F hmid ?_)
  refine PyProof.Rows.add_str (fun u2 k2 => wpAny_BinOp (Constant_str (wpAny_BinOp (nameX_L F hc (wpAny_Constant_int (mod_int' (by decide) ?_)))))) (by rw [blanks_length]; omega)
  refine mul_blank r2.1 (by omega) (fun u3 k3 => ?_)
  have hl1 : (blanks (b.fmod 12).toNat ++ x).length ≤ 220 := by rw [Str.length_append, blanks_length]; omega
  refine PyProof.Rows.add_str (fun u4 k4 => ?_) (by rw [blanks_length]; omega)
  obtain ⟨v2, hd2⟩ := hd2
  refine storeX_C (c := L + 1 + 1) F N rfl (.tail (by k_ne) (.head (by k_all))) hd2 (fun h' o' F' N' hd' => ?_)
  refine k h' _ _ _ o' F' N' hd' ?_
  rw [Str.length_append, blanks_length]; omega

theorem paired_strs {P : Str → Prop} {F : Value → Value → Prop} (hF : ∀ a b, F a b → ∃ y t, b = .str y t ∧ P y) : ∀ {l : List Value} {ys : List Value}, Paired F l ys → ∃ zs, StrsAre ys zs ∧ (∀ z ∈ zs, P z) ∧ zs.length = l.length
  | _, _, .nil => ⟨[], .nil, (by intro z hz; cases hz), rfl⟩
  | _, _, .cons h r => by
    obtain ⟨zs, h1, h2, h3⟩ := paired_strs hF r
    obtain ⟨y, t, rfl, hy⟩ := hF _ _ h
    exact ⟨y :: zs, .cons y t h1, (fun z hz => (List.mem_cons.mp hz).elim (fun e => e ▸ hy) (h2 z)), by simp [h3]⟩
theorem sum_le_two : ∀ {zs : List Str}, (∀ z ∈ zs, z.length ≤ 2) → (zs.map (·.length)).sum ≤ 2 * zs.length
  | [], _ => by simp
  | z :: zs, h => by
    have h1 := h z (.head _)
    have h2 := sum_le_two (zs := zs) fun y hy => h y (.tail _ hy)
    simp only [List.map_cons, List.sum_cons, List.length_cons]
    omega

theorem ints_item : ∀ {vs : List Value} {ns : List Int} {i : Nat} {v : Value}, IntsAre vs ns → vs.toArray[i]? = some v → ∃ a t, v = .int a t
  | _, _, i, v, .nil, h => by simp at h
  | _, _, 0, v, .cons n t r, h => by simp at h; exact ⟨n, t, h.symm⟩
  | _, _, i + 1, v, .cons n t r, h => ints_item (i := i) r (by simpa using h)

theorem keeps_refl (s : Shared) : Keeps s s := ⟨s.heap, s.toks, rfl, fun _ _ e => e⟩

/-- if fourth % 2 == 1: .. middle = ''.join([[..][x % 5] for x in rest]) -/
theorem st_mid {tm : Tok} {l : Addr} {vs : List Value} {ns : List Int} {d : Int} {t4 : Tok} (F : Fr h₀ L s.heap m) (N : News h₀ L s.heap news) (hm : m "script" = some (.ref l)) (hl : h₀.IsList l vs.toArray) (hI : IntsAre vs ns) (hlen : ns.length ≤ 63) (hh : A.handled = none)
    (hu : A.units + 64 < cLine) (h4 : m "fourth" = some (.int d t4)) (hmid : m "middle" = some (.str (Str.ofString "") tm))
    (k : ∀ h' tk y ty m', Fr h₀ L h' m' → News h₀ L h' news → m' "middle" = some (.str y ty) → y.length ≤ 200 → m' "second" = m "second" → m' "third" = m "third" → wpAny (model prog w) A (execs (lawB.drop 4) (lawE L fa cd)) Q E { s with heap := h', toks := tk }) :
    wpAny (model prog w) A (execs (lawB.drop 3) (lawE L fa cd)) Q E s := by
  have hsl : sizeLine = 16777216 := rfl
  refine wpAny_execs_cons (wpAny_If (wpAny_isTrue_Compare1 (wpAny_BinOp (nameX_L F h4 (wpAny_Constant_int (mod_int' (by decide) (wpAny_Constant_int (PyProof.Rows.eq_int (wpAny_truthy_bool ?_)))))))))
  cases hb : (d.fmod 2 == 1) with
  | false =>
    simp only [Bool.false_eq_true, if_false]
    refine wpAny_execs_nil ?_
    exact k s.heap _ _ _ m F N hmid (by decide) rfl rfl
  | true =>
    simp only [if_true]
    -- rest = script[4:63]
    refine wpAny_execs_cons (wpAny_Assign_Name (Subscript_ (nameX_L F hm (wpAny_Slice (evalPart_some_step (wpAny_Constant_int (evalPart_some_step (wpAny_Constant_int (evalPart_none_step ?_)))))))))
    have hvl : vs.length = ns.length := hI.length
    refine kmk_slice (s := { s with toks := _ }) F N (stays_list F.keep hl) (.int _ _) (.int _ _) (fun D₁ h₁ F₁ N₁ _ => ?_) rfl (fun _ => rfl) (by simp only [List.size_toArray]; omega)
    have hI1 := kmk_run (x := 4) (y := 63) hI (by omega) (by omega)
    refine storeX_L F₁ N₁ (fun h₂ F₂ N₂ => ?_)
    -- the rest of the block, whatever list of ints «rest» is
    have go : ∀ (s' : Shared) (R : Addr) (us : List Value) (ms : List Int) (news' : List (Addr × Obj)) (m' : Str → Option Value), Fr h₀ L s'.heap m' → News h₀ L s'.heap news' → (∀ q ∈ news, q ∈ news') → s'.gens = s.gens → s'.drawn = s.drawn → s'.os = s.os → m' "rest" = some (.ref R) → s'.heap.IsList R us.toArray → IntsAre us ms → ms.length ≤ 63 → m' "second" = m "second" → m' "third" = m "third" →
        wpAny (model prog w) A (execs (((match lawB.drop 3 with | .If _ b _ _ :: _ => b | _ => []) : List Stmt).drop 2) (lawE L fa cd)) (fun f s₃ => match f with | .next => wpAny (model prog w) A (execs (lawB.drop 4) (lawE L fa cd)) Q E s₃ | f => Q f s₃) E s' := by
      intro s' R us ms news' m' F' N' hsub eg ed eo hR hlR hIR hlenR e2 e3
      have hvl : us.length = ms.length := hIR.length
      refine wpAny_execs_cons (wpAny_Assign_Name ?_)
      refine MethodCall_ ?_
      refine Constant_str ?_
      refine GM.join ?_
      refine callWith_method1 ?_
      refine args_cons ?_
      refine wpAny_ListComp_walk (fun _ => true) (fun _ y => ∃ z t, y = .str z t ∧ z.length ≤ 2) (by decide) (by decide) rfl (by decide) rfl ?_
      refine nameX_L F' hR (wpAny_pyIter_list hlR ?_)
      refine ⟨_, _, _, _, _, _, rfl, Walks.list hh _ R (Nat.ne_of_lt (by obtain ⟨o, ho, _⟩ := hlR; exact Heap.lt_size ho)) us.toArray, by simp only [List.size_toArray]; omega, ⟨⟨_, Heap.get?_push_size _ rfl, rfl, rfl⟩, hlR.push _⟩, ?_, ⟨?_, ?_⟩, ?_⟩
      · intro b hb
        rw [Heap.size_push]
        obtain ⟨o, ho, _⟩ := hlR
        have := Heap.lt_size ho
        rcases List.mem_cons.mp hb with rfl | hb
        · exact Nat.lt_succ_self _
        · rcases List.mem_cons.mp hb with rfl | hb
          · exact Nat.lt_succ_of_lt this
          · cases hb
      · intro C i v s₃ m₃ E' _ hn _ _ _
        exact wpAny_tests_nil ⟨rfl, keeps_refl _⟩
      · intro C i v s₃ m₃ E' hv _ hn hx _ _
        obtain ⟨a, t, rfl⟩ : ∃ a t, v = .int a t := ints_item hIR hv
        refine Subscript_ (List_ ?_)
        refine args_cons (Constant_str (args_cons (Constant_str (args_cons (Constant_str (args_cons (Constant_str (args_cons (Constant_str (args_nil ?_))))))))))
        refine wpAny_newObj_type ?_
        refine wpAny_BinOp (wpAny_Name (wpAny_loadName_local rfl rfl (hn.push _) hx (wpAny_Constant_int (mod_int' (by decide) ?_))))
        have r := fmod_range (a := a) (b := 5) (by decide)
        refine kba_turn (value' := PySem.Expr.Name (PySem.Str.ofString "_") ⟨0, 0, 0, 0⟩) (fun _ => rfl) ?_
        have five : a.fmod 5 = 0 ∨ a.fmod 5 = 1 ∨ a.fmod 5 = 2 ∨ a.fmod 5 = 3 ∨ a.fmod 5 = 4 := by omega
        have hlst : (s₃.heap.push { cls := .type "list", data := .seq [Value.str (Str.ofString " ") s₃.toks, .str (Str.ofString "x") (s₃.toks + 1), .str (Str.ofString "  ") (s₃.toks + 1 + 1), .str (Str.ofString "\t") (s₃.toks + 1 + 1 + 1), .str (Str.ofString "-5") (s₃.toks + 1 + 1 + 1 + 1)].toArray }).IsList s₃.heap.objs.size
            [Value.str (Str.ofString " ") s₃.toks, .str (Str.ofString "x") (s₃.toks + 1), .str (Str.ofString "  ") (s₃.toks + 1 + 1), .str (Str.ofString "\t") (s₃.toks + 1 + 1 + 1), .str (Str.ofString "-5") (s₃.toks + 1 + 1 + 1 + 1)].toArray := ⟨_, Heap.get?_push_size _ rfl, rfl, _, rfl⟩
        have kp : ∀ tk, Keeps s₃ { s₃ with heap := s₃.heap.push { cls := .type "list", data := .seq [Value.str (Str.ofString " ") s₃.toks, .str (Str.ofString "x") (s₃.toks + 1), .str (Str.ofString "  ") (s₃.toks + 1 + 1), .str (Str.ofString "\t") (s₃.toks + 1 + 1 + 1), .str (Str.ofString "-5") (s₃.toks + 1 + 1 + 1 + 1)].toArray }, toks := tk } :=
          fun tk => ⟨_, tk, rfl, fun _ _ e => Heap.get?_push_of_some _ e⟩
        rcases five with e | e | e | e | e <;> rw [e] <;> refine item_listL hlst (by decide) (by decide) rfl ⟨⟨_, _, rfl, by decide⟩, kp _⟩
      · intro D h' tk ys ws hD hlD hpD hlen' hP hF hk
        rw [List.filter_eq_self.mpr (fun _ _ => rfl)] at hF
        obtain ⟨zs, z1, z2, z3⟩ := paired_strs (P := fun z => z.length ≤ 2) (fun _ _ h => h) hF
        have hzl : zs.length ≤ 63 := by rw [z3, hlen']; simp only [List.size_toArray]; omega
        have hzs := sum_le_two z2
        have st : ∀ b o, s'.heap.get? b = some o → h'.get? b = some o := stays_but (fun b o e => Heap.get?_push_of_some _ e) fresh_wr hk
        refine args_nil ?_
        refine join_list hlD z1 (by have h0 : (Str.ofString "").length = 0 := by decide
                                    rw [h0]; omega) (fun t' kk => ?_)
        refine storeX_L (fr_stays F' st) (news_stays N' st) (fun h₃ F₃ N₃ => wpAny_execs_nil ?_)
        obtain ⟨hp, gs, dr, tks, os⟩ := s'
        cases eg; cases ed; cases eo
        refine k h₃ _ _ _ _ F₃ (fun q hq => N₃ q (hsub q hq)) rfl ?_ e2 e3
        have h0 : (Str.ofString "").length = 0 := by decide
        have := StrLaws.join_length_le (Str.ofString "") zs
        rw [← StrLaws.glued_eq_join, h0] at this
        exact Nat.le_trans this (by omega)
    -- if rest == []
    refine wpAny_execs_cons (wpAny_If (wpAny_isTrue_Compare1 (nameX_L F₂ rfl (List_ (args_nil ?_)))))
    refine newList_N F₂ N₂ (fun h₃ F₃ N₃ => ?_)
    have hL1 : h₃.IsList D₁ (slicePick vs.toArray (some 4) (some 63) none).toList.toArray := by rw [Array.toArray_toList]; exact News.isList N₃ (.tail _ (.head _))
    have hlen1 : (List.take (min (63 : Int).toNat ns.length - (4 : Int).toNat) (List.drop (4 : Int).toNat ns)).length ≤ 63 := by rw [List.length_take]; omega
    refine eq_intsK hL1 hI1 (News.isList N₃ (.head _)) .nil hu (wpAny_truthy_bool ?_)
    split
    · refine wpAny_execs_cons (wpAny_Assign_Name (List_ (args_cons (wpAny_Constant_int (args_nil ?_)))))
      refine newList_N F₃ N₃ (fun h₄ F₄ N₄ => ?_)
      refine storeX_L F₄ N₄ (fun h₅ F₅ N₅ => wpAny_execs_nil ?_)
      exact go _ _ _ [1] _ _ F₅ N₅ (fun q hq => .tail _ (.tail _ (.tail _ hq))) rfl rfl rfl rfl (News.isList N₅ (.head _)) (.cons _ _ .nil) (by decide) rfl rfl
    · refine wpAny_execs_nil ?_
      exact go _ _ _ _ _ _ F₃ N₃ (fun q hq => .tail _ (.tail _ hq)) rfl rfl rfl rfl hL1 hI1 hlen1 rfl rfl
end
end Mine
namespace Mine

section
variable {prog : Program} {w : World} {A₀ : Around} {E : Value → Shared → Prop} {s' : Shared} {h₀ h : Heap} {outer : List Env} {L fa e : Addr} {m mg mb : Str → Option Value} {cn : Str} {cs : Scope} {cd : Value} {cl : List (Str × Addr)}
  {b₀ : Stmt} {suite : List Stmt} {pos np : Pos} {rest : List ExceptHandler} {Q : Flow → Shared → Prop} {news : List (Addr × Obj)} {K : Frag} {p : Program} {loose : List Str} {x : Str} {X T' : String}
/-- an exception that the interpreter raised in a callee lands at «except X:» of a frame with cells -/
theorem caughtX (B : Below A₀ h₀ outer h₀) (F : Fr h₀ L h m) (hsm : h.UpToSlots s'.heap) (R : RaisedN h₀ (envX cn cs L fa cd cl :: outer) e (.type X) news s'.heap)
    (XK : K.In h₀) (T : TopRead p loose mg mb h₀) (hK : nsIn K mainGlobals x = some none) (hv : bootBuiltins x = some (.type T')) (hn : x ≠ "__name__")
    (hexc : isSubtype (.type T') (.type "BaseException") = pure true) (hnt : isSubtype (.type ((Manifest.find? T').elim "type" fun y => y.metatype)) (.type "tuple") = pure false) (hsub : isSubtype (.type X) (.type T') = pure true)
    (k : ∀ h', Fr h₀ L h' m → News h₀ L h' news →
      wpAny (model prog w) ((A₀.deeper (envX cn cs L fa cd cl)).mark (some (.ref e))) (execs (b₀ :: suite) (envX cn cs L fa cd cl)) Q E { s' with heap := h' })
    (hk : cs.kind = .function) (hx : (envX cn cs L fa cd cl).kindOf x = some .globalImplicit) (hd : (x == ("__debug__" : Str)) = false)
    (hE : PassesOwnAt (model prog w) ((A₀.deeper (envX cn cs L fa cd cl)).mark (some (.ref e))) (A₀.deeper (envX cn cs L fa cd cl)) (envX cn cs L fa cd cl) E) :
    wpAny (model prog w) (A₀.deeper (envX cn cs L fa cd cl)) (noteFrame (.ref e) (envX cn cs L fa cd cl))
      (fun _ s₂ => wpAny (model prog w) (A₀.deeper (envX cn cs L fa cd cl)) (setFlight (.ref e) none) (fun _ s₃ =>
        wpAny (model prog w) (A₀.deeper (envX cn cs L fa cd cl)) (handleBy (.ref e) (envX cn cs L fa cd cl) (.ExceptHandler (some (.Name x np)) none (b₀ :: suite) pos :: rest)) Q E s₃) E s₂) E s' := by
  obtain ⟨H, a0, hB, hl, hfl⟩ := R
  have hL : H.get? L = none := by
    obtain ⟨_, ⟨L', _, hf, hn', _⟩, _⟩ := hfl.2.2.1
    obtain rfl : L = L' := Option.some.inj hf
    exact hn'
  refine wpAny_looks_onW (Around.frames_deeper B.stack) rfl hfl fun h₁ held₁ up₁ => ?_
  refine wpAny_landsW held₁ fun h₂ fly₂ up₂ => ?_
  have low₂ := flyingW_base hB fly₂
  have F₂ := F.of_stays low₂.1 (hsm.trans (up₁.trans up₂))
  obtain ⟨ob, hob, hobc⟩ := low₂.there
  refine wpAny_handleBy_builtin (X := X) (T := T') (b := true) hexc hnt hsub (nameX_B F₂ XK T hK hv hn ⟨rfl, ⟨ob, hob, hobc⟩, ?_⟩ hk hx hd)
  refine lands_againW fly₂ fun h₃ fly₃ up₃ => ?_
  have F₃ := F.of_stays (flyingW_base hB fly₃).1 ((hsm.trans (up₁.trans up₂)).trans up₃)
  refine wpAny_passesOwnAt hE (k h₃ F₃ fun q hq => ⟨fly₃.1 _ _ (hl q hq).1, fun z => ?_, (hl q hq).2⟩)
  have := (hl q hq).1
  rw [z, hL] at this
  cases this
end

section
variable {prog : Program} {w : World} {E : Value → Shared → Prop} {s : Shared} {h₀ : Heap} {L fa : Addr} {m mg mb : Str → Option Value} {cd : Value} {Q : Flow → Shared → Prop} {p : Program} {loose : List Str} {mean : ExcName → Option Value}

/-- try: told = _strip_padding(text, amount) .. -/
theorem st_try {o1 o2 o3 : Obj} {x : Str} {tx tn : Tok} {n : Int} (B : Below callerA h₀ [] h₀) (F : Fr h₀ L s.heap m) (N : News h₀ L s.heap (cells L o1 o2 o3)) (X : (Mine.hd01.heap_39 w.params).In h₀) (T : Top p loose mean mg mb h₀)
    (hd1 : o1.data = .cell (some (.int n tn))) (hd2 : o2.data = .cell (some (.str x tx))) (hx : x.length ≤ 300)
    (k1 : ∀ h' tk a b t' m', stripB x.cps.toList n = some (a, b) → Fr h₀ L h' m' → News h₀ L h' (cells L o1 o2 o3) → m' "told" = some (.str (Txt.slice x (some (a : Int)) (some (b : Int))) t') →
      wpAny (model prog w) (callerA.deeper (lawE L fa cd)) (execs (lawB.drop 6) (lawE L fa cd)) Q E { s with heap := h', toks := tk })
    (k2 : ∀ h' tk l u m', stripB x.cps.toList n = none → Fr h₀ L h' m' → News h₀ L h' ((l, listOf [Value.str (Str.ofString "IndexError") u].toArray 0) :: cells L o1 o2 o3) → m' "told" = some (.ref l) →
      wpAny (model prog w) (callerA.deeper (lawE L fa cd)) (execs (lawB.drop 6) (lawE L fa cd)) Q E { s with heap := h', toks := tk })
    (hE : ∀ e, PassesOwnAt (model prog w) ((callerA.deeper (lawE L fa cd)).mark (some (.ref e))) (callerA.deeper (lawE L fa cd)) (lawE L fa cd) E) :
    wpAny (model prog w) (callerA.deeper (lawE L fa cd)) (execs (lawB.drop 5) (lawE L fa cd)) Q E s := by
  have hsl : sizeLine = 16777216 := rfl
  refine wpAny_execs_cons (wpAny_Try_except (wpAny_execs_cons (wpAny_Assign_Name ?_)))
  refine Call_ (nameX_K F X (topRead_of T) rfl ?_)
  refine callWith_K X (by rfl) (args_cons ?_)
  refine nameX_C N rfl (.tail _ (.head _)) hd2 (args_cons ?_)
  refine nameX_C N rfl (.tail _ (.tail _ (.head _))) hd1 (args_nil ?_)
  refine ⟨X.keeps F.keep, ?_⟩
  refine strip01 B F X N T rfl rfl rfl (by show 1 + claimMargin + 1 < recursionLimit; decide) rfl (by omega) ?_ ?_
  · intro a b h' tk t' hb F' N'
    refine storeX_L F' N' (fun h₂ F₂ N₂ => wpAny_execs_nil (wpAny_execs_nil ?_))
    exact k1 h₂ _ a b t' _ hb F₂ N₂ rfl
  · intro g h' tk e hb Fg hup R
    refine caughtX B Fg hup R X (topRead_of T) rfl PyProof.Rows.Boot.«IndexError» (by decide) PySem.F.isExc_IndexError PySem.F.notTuple_IndexError (by rw [isSubtype_type]; kernel_rfl) (fun h₂ F₂ N₂ => ?_) rfl rfl (by decide) ?_
    · refine wpAny_execs_cons (wpAny_Assign_Name (List_ (args_cons (Constant_str (args_nil ?_)))))
      refine newList_N F₂ N₂ (fun h₃ F₃ N₃ => ?_)
      refine storeX_L F₃ N₃ (fun h₄ F₄ N₄ => wpAny_execs_nil ?_)
      exact k2 h₄ _ _ _ _ hb F₄ N₄ rfl
    · exact hE e
end
end Mine
namespace Mine

theorem all_blank_iff (x : Str) : (x == blanks x.length) = decide (lead x.cps.toList = x.length) := by
  have hlen : x.cps.toList.length = x.length := by simp [Str.length]
  rw [Bool.eq_iff_iff]
  simp only [beq_iff_eq, decide_eq_true_eq]
  constructor
  · intro h
    have : x.cps.toList = List.replicate x.length 32 := by
      conv => lhs; rw [h]
      simp [blanks]
    rw [this]
    unfold lead
    rw [List.takeWhile_replicate]
    simp
  · intro h
    have : x.cps.toList = List.replicate x.length 32 := by
      apply List.ext_getElem?
      intro i
      by_cases hi : i < x.length
      · rw [lead_blank (by omega), List.getElem?_replicate, if_pos hi]
      · rw [List.getElem?_eq_none (by omega), List.getElem?_eq_none (by simp; omega)]
    unfold blanks
    rw [← this]

section
variable {prog : Program} {w : World} {A : Around} {E : Value → Shared → Prop} {s : Shared} {h₀ : Heap} {L fa : Addr} {m mg mb : Str → Option Value} {cd : Value} {Q : Flow → Shared → Prop} {p : Program} {loose : List Str} {news : List (Addr × Obj)}

/-- if text == ' ' * len(text) and (amount < 0 or amount > len(text)): -/
theorem st_if {o1 o2 : Obj} {x : Str} {tx tn : Tok} {n : Int} (F : Fr h₀ L s.heap m) (N : News h₀ L s.heap news) (X : (Mine.hd01.heap_39 w.params).In h₀) (T : TopRead p loose mg mb h₀)
    (hc1 : (L + 1, o1) ∈ news) (hc2 : (L + 1 + 1, o2) ∈ news)
    (hd1 : o1.data = .cell (some (.int n tn))) (hd2 : o2.data = .cell (some (.str x tx))) (hx : x.length ≤ 300)
    (k1 : lead x.cps.toList = x.length → ¬ (0 ≤ n ∧ n ≤ x.length) → ∀ tk, wpAny (model prog w) A (execs (match lawB.drop 6 with | .If _ b _ _ :: _ => b | _ => []) (lawE L fa cd)) (fun f s' => match f with | .next => wpAny (model prog w) A (execs (lawB.drop 7) (lawE L fa cd)) Q E s' | f => Q f s') E { s with toks := tk })
    (k2 : ¬ (lead x.cps.toList = x.length ∧ ¬ (0 ≤ n ∧ n ≤ x.length)) → ∀ tk, wpAny (model prog w) A (execs (lawB.drop 7) (lawE L fa cd)) Q E { s with toks := tk }) :
    wpAny (model prog w) A (execs (lawB.drop 6) (lawE L fa cd)) Q E s := by
  refine wpAny_execs_cons (wpAny_If (isTrue_and (wpAny_isTrue_Compare1 ?_)))
  refine nameX_C N rfl hc2 hd2 (wpAny_BinOp (Constant_str (Call_ (nameX_B F X T rfl boot_len (by decide) ?_))))
  refine callWith_builtin1 (args_cons (nameX_C N rfl hc2 hd2 (args_nil ?_)))
  refine PyProof.Rows.len_str (by omega) (mul_blank (by omega) (by omega) (fun t1 k1' => ?_))
  rw [Int.toNat_natCast]
  refine PyProof.Rows.eq_str (wpAny_truthy_bool ?_)
  rw [all_blank_iff]
  by_cases hl : lead x.cps.toList = x.length
  · rw [decide_eq_true hl]
    simp only [if_true]
    refine isTrue_and (isTrue_or (wpAny_isTrue_Compare1 (nameX_C N rfl hc1 hd1 (wpAny_Constant_int (PyProof.Rows.lt_int (wpAny_truthy_bool ?_))))))
    by_cases h0 : n < 0
    · rw [decide_eq_true h0]
      simp only [if_true]
      refine isTrue_and_nil ?_
      simp only [if_true]
      exact k1 hl (by omega) _
    · rw [decide_eq_false h0]
      simp only [Bool.false_eq_true, if_false]
      refine isTrue_or (wpAny_isTrue_Compare1 (nameX_C N rfl hc1 hd1 (Call_ (nameX_B F X T rfl boot_len (by decide) ?_))))
      refine callWith_builtin1 (args_cons (nameX_C N rfl hc2 hd2 (args_nil ?_)))
      refine PyProof.Rows.len_str (by omega) (PyProof.Rows.gt_int (wpAny_truthy_bool ?_))
      by_cases h1 : n > x.length
      · rw [decide_eq_true h1]
        simp only [if_true]
        refine isTrue_and_nil ?_
        simp only [if_true]
        exact k1 hl (by omega) _
      · rw [decide_eq_false h1]
        simp only [Bool.false_eq_true, if_false]
        refine isTrue_or_nil ?_
        simp only [Bool.false_eq_true, if_false]
        exact wpAny_execs_nil (k2 (by omega) _)
  · rw [decide_eq_false hl]
    simp only [Bool.false_eq_true, if_false]
    exact wpAny_execs_nil (k2 (fun h => hl h.1) _)

/-- return told == ['IndexError'] -/
theorem st_ret_list {l : Addr} {u : Tok} {R : Flow → Shared → Prop} (F : Fr h₀ L s.heap m) (N : News h₀ L s.heap ((l, listOf [Value.str (Str.ofString "IndexError") u].toArray 0) :: news)) (hu : A.units + 64 < cLine) (ht : m "told" = some (.ref l))
    (k : ∀ h' tk, Fr h₀ L h' m → R (.ret (.bool true)) { s with heap := h', toks := tk }) :
    wpAny (model prog w) A (execs (match lawB.drop 6 with | .If _ b _ _ :: _ => b | _ => []) (lawE L fa cd)) R E s := by
  refine wpAny_execs_cons (wpAny_Return_some (wpAny_Compare1 (nameX_L F ht (List_ (args_cons (Constant_str (args_nil ?_)))))))
  refine newList_N F N (fun h₂ F₂ N₂ => ?_)
  refine eq_dataH (.list (N₂ _ (.tail _ (.head _))).1 rfl rfl (.cons (.str _ _) .nil)) (.list (N₂ _ (.head _)).1 rfl rfl (.cons (.str _ _) .nil)) (by decide +kernel) (by decide +kernel) hu ?_
  exact k _ _ F₂
end
end Mine
namespace Mine

theorem str_eq_iff (a b : List Nat) : ((⟨a.toArray⟩ : Str) = ⟨b.toArray⟩) ↔ a = b := by
  constructor
  · intro h
    have := congrArg (fun s : Str => s.cps.toList) h
    simpa using this
  · intro h; rw [h]
theorem head_test {x : Str} {a : Nat} (h : a ≤ x.length) : (Txt.slice x none (some (a : Int)) == blanks a) = decide (a ≤ lead x.cps.toList) := by
  have hlen : x.cps.toList.length = x.length := by simp [Str.length]
  have e := eq_of_beq (slice_closes_toL (x := x) (j := (a : Int)) (by omega) (by omega))
  rw [e, Bool.eq_iff_iff, beq_iff_eq, decide_eq_true_eq, ← take_blank (by omega)]
  unfold blanks
  rw [str_eq_iff]
  have e1 : ((a : Int) - 0).toNat = a := by omega
  rw [e1]
  exact Iff.rfl
theorem tail_test {x : Str} {b : Nat} (h : b ≤ x.length) : (Txt.slice x (some ((x.length : Int) - b)) none == blanks b) = decide (b ≤ trail x.cps.toList) := by
  have hlen : x.cps.toList.length = x.length := by simp [Str.length]
  have e := eq_of_beq (slice_closes_fromL (x := x) (i := (x.length : Int) - b) (b := x.length) (by omega) (by omega) rfl)
  rw [e, Bool.eq_iff_iff, beq_iff_eq, decide_eq_true_eq, ← drop_blank (by omega), hlen]
  have e1 : ((x.length : Int) - b).toNat = x.length - b := by omega
  have e2 : ((x.length : Int) - ((x.length : Int) - b)).toNat = b := by omega
  rw [e1, e2, List.take_of_length_le (by rw [List.length_drop, hlen]; omega)]
  unfold blanks
  rw [str_eq_iff]

/-- the ints 0 .. k -/
def upto (k : Nat) : List Int := (List.range (k + 1)).map fun (i : Nat) => (i : Int)
theorem filter_upto {k N : Nat} (h : k ≤ N) : (((List.range (N + 1)).map fun (i : Nat) => 0 + (i : Int)).filter fun a => decide (a.toNat ≤ k)) = upto k := by
  unfold upto
  rw [List.filter_map]
  have e1 : ((fun a : Int => decide (a.toNat ≤ k)) ∘ fun (i : Nat) => 0 + (i : Int)) = fun i => decide (i < k + 1) := by funext i; simp; omega
  rw [e1]
  have e2 : (List.range (N + 1)).filter (fun i => decide (i < k + 1)) = List.range (k + 1) := by
    have h1 : N + 1 = (k + 1) + (N - k) := by omega
    rw [h1, List.range_add, List.filter_append, List.filter_eq_self.mpr (by intro a ha; simpa using ha), List.filter_eq_nil_iff.mpr (by intro a ha; simp at ha ⊢; omega), List.append_nil]
  rw [e2]
  simp
def keepTo (k : Nat) : Value → Bool
  | .int a _ => decide (a.toNat ≤ k)
  | _ => false

section
variable {prog : Program} {w : World} {A : Around} {E : Value → Shared → Prop} {s : Shared} {h₀ : Heap} {L fa : Addr} {m mg mb : Str → Option Value} {cd : Value} {Q : Flow → Shared → Prop} {p : Program} {loose : List Str} {news : List (Addr × Obj)}

/-- heads = [a for a in range(len(text) + 1) if text[:a] == ' ' * a] -/
theorem st_heads {o2 : Obj} {x : Str} {tx : Tok} (F : Fr h₀ L s.heap m) (N : News h₀ L s.heap news) (X : (Mine.hd01.heap_39 w.params).In h₀) (T : TopRead p loose mg mb h₀)
    (hc2 : (L + 1 + 1, o2) ∈ news) (hd2 : o2.data = .cell (some (.str x tx))) (hx : x.length ≤ 300) (hh : A.handled = none)
    (k : ∀ h' tk D hs m' ep, Fr h₀ L h' m' → News h₀ L h' ((D, listOf (List.toArray hs) ep) :: news) → IntsAre hs (upto (lead x.cps.toList)) → m' "heads" = some (.ref D) → (∀ y, y ≠ ("heads" : Str) → m' y = m y) → wpAny (model prog w) A (execs (lawB.drop 8) (lawE L fa cd)) Q E { s with heap := h', toks := tk }) :
    wpAny (model prog w) A (execs (lawB.drop 7) (lawE L fa cd)) Q E s := by
  have hlen : x.cps.toList.length = x.length := by simp [Str.length]
  have hsl : sizeLine = 16777216 := rfl
  refine wpAny_execs_cons ?_
  refine wpAny_Assign_ListComp_free (cl := [("text", L + 1 + 1)]) (keepTo (lead x.cps.toList)) (fun v y => y = v) rfl rfl (by decide) rfl (by decide) rfl rfl rfl ?_
  refine Call_ (nameX_B F X T rfl boot_range (by decide) ?_)
  refine PyProof.Rows.callWith_type1 (args_cons (wpAny_BinOp (Call_ (nameX_B F X T rfl boot_len (by decide) ?_))))
  refine callWith_builtin1 (args_cons (nameX_C N rfl hc2 hd2 (args_nil ?_)))
  refine PyProof.Rows.len_str (by omega) (wpAny_Constant_int (PyProof.Rows.add_int (args_nil ?_)))
  refine range_iter (N := x.length + 1) (by omega) (fun I h₁ tk₁ st₁ hI hI2 it₁ => ?_)
  refine ⟨I, _, _, _, _, _, m, rfl, walks_lt (Walks.range hh I 0 1 (x.length + 1)), by omega, it₁, ?_, ?_, (F.ns.keeps st₁), ⟨?_, ?_⟩, ?_⟩
  · intro b hb
    rcases List.mem_cons.mp hb with rfl | hb
    · exact hI2
    · cases hb
  · intro hb
    rcases List.mem_cons.mp hb with hb | hb
    · obtain ⟨oL, _, _, hL, _⟩ := F.ns
      have hb' : L = I := hb
      rw [hb', hI] at hL
      cases hL
    · cases hb
  · -- the test
    intro C i v s₃ m₃ E' hC hv hn hvx kp _
    obtain ⟨hlt, t, rfl⟩ := hv
    have st₃ : ∀ b o, s.heap.get? b = some o → s₃.heap.get? b = some o := stays_but st₁ (fun b hb => by rcases List.mem_cons.mp hb with rfl | hb; exact hI; cases hb) kp
    have F₃ : Fr h₀ C s₃.heap m₃ := ⟨hn, fun b o e => st₃ b o (F.keep b o e), Nat.le_trans F.above (Nat.le_trans (Nat.le_of_lt (by obtain ⟨oL, _, _, hL, _⟩ := F.ns; exact Heap.lt_size (st₁ _ _ hL))) hC)⟩
    have hcell : s₃.heap.get? (L + 1 + 1) = some o2 := st₃ _ _ (N _ hc2).1
    have hi : i ≤ x.length := by omega
    refine wpAny_tests_one (wpAny_isTrue_Compare1 (Subscript_ (wpAny_Name (wpAny_loadName_cell rfl rfl rfl ⟨o2, hcell, hd2⟩ ?_))))
    refine wpAny_Slice (evalPart_none_step (evalPart_some_step (wpAny_Name (wpAny_loadName_local rfl rfl hn hvx (evalPart_none_step ?_)))))
    refine slice_ns_stays (fun h₄ t₄ k₄ st₄ => ?_) (by omega)
    refine wpAny_BinOp (Constant_str (wpAny_Name (wpAny_loadName_local rfl rfl (hn.keeps st₄) hvx ?_)))
    refine mul_blank (by omega) (by omega) (fun t₅ k₅ => ?_)
    refine PyProof.Rows.eq_str (wpAny_truthy_bool ⟨?_, h₄, _, rfl, st₄⟩)
    have e : (0 + (i : Int) * 1) = i := by omega
    rw [e, Int.toNat_natCast, head_test hi]
    simp only [keepTo, Int.toNat_natCast]
  · -- the element
    intro C i v s₃ m₃ E' _ hv _ hn hvx kp _
    exact wpAny_Name (wpAny_loadName_local rfl rfl hn hvx ⟨rfl, keeps_refl _⟩)
  · -- the end
    intro D h' tk ys vs hD hlD hpD hlen' hP hF hn hk
    obtain ⟨ep, hpD⟩ := hpD
    have st' : ∀ b o, b ≠ L → s.heap.get? b = some o → h'.get? b = some o := fun b o hb e => hk b o hb (fun hb => by rcases List.mem_cons.mp hb with rfl | hb; (rw [hI] at e; cases e); cases hb) (st₁ b o e)
    have hDs : s.heap.get? D = none := by
      cases e : s.heap.get? D with
      | none => rfl
      | some o => have := st₁ D o e; rw [hD] at this; cases this
    have hbase : ∀ b o, h₀.get? b = some o → b ≠ L := fun b o e hb => absurd (Heap.lt_size e) (Nat.not_lt.mpr (hb ▸ F.above))
    have F' : Fr h₀ L h' (fun z => if z = Str.ofString "heads" then some (Value.ref D) else m z) := ⟨hn, fun b o e => st' b o (hbase b o e) (F.keep b o e), F.above⟩
    have N' : News h₀ L h' news := fun q hq => ⟨st' _ _ (N q hq).2.1 (N q hq).1, (N q hq).2.1, (N q hq).2.2⟩
    have eys := paired_eq hF
    have hI' := ints_filter (p := keepTo (lead x.cps.toList)) (q := fun a => decide (a.toNat ≤ lead x.cps.toList)) (fun _ _ => rfl) (ints_of_range (a := 0) hlen' (fun j v hj => (hP j v hj).2))
    rw [filter_upto (by rw [← hlen]; exact lead_le _), ← eys] at hI'
    refine k h' tk D ys.toList _ ep F' (news_add F N' (by rw [Array.toArray_toList]; exact hpD) hDs) hI' rfl (fun y hy => if_neg hy)

/-- tails = [b for b in range(len(text) + 1) if text[len(text) - b:] == ' ' * b] -/
theorem st_tails {o1 o2 o3 : Obj} {D₁ : Addr} {its : Array Value} {ep₁ : Nat} {x : Str} {tx : Tok} (F : Fr h₀ L s.heap m) (N : News h₀ L s.heap ((D₁, listOf its ep₁) :: cells L o1 o2 o3)) (X : (Mine.hd01.heap_39 w.params).In h₀) (T : TopRead p loose mg mb h₀)
    (hd2 : o2.data = .cell (some (.str x tx))) (hd3 : ∃ v, o3.data = .cell v) (hx : x.length ≤ 300) (hh : A.handled = none)
    (k : ∀ h' tk D ts o3' ep, Fr h₀ L h' m → News h₀ L h' ((D, listOf (List.toArray ts) ep) :: (D₁, listOf its ep₁) :: cells L o1 o2 o3') → IntsAre ts (upto (trail x.cps.toList)) → o3'.data = .cell (some (.ref D)) → wpAny (model prog w) A (execs (lawB.drop 9) (lawE L fa cd)) Q E { s with heap := h', toks := tk }) :
    wpAny (model prog w) A (execs (lawB.drop 8) (lawE L fa cd)) Q E s := by
  have hlen : x.cps.toList.length = x.length := by simp [Str.length]
  have hsl : sizeLine = 16777216 := rfl
  have hc2 : (L + 1 + 1, o2) ∈ (D₁, listOf its ep₁) :: cells L o1 o2 o3 := .tail _ (.tail _ (.head _))
  refine wpAny_execs_cons (wpAny_Assign_Name ?_)
  refine wpAny_ListComp_free (cl := [("text", L + 1 + 1)]) (keepTo (trail x.cps.toList)) (fun v y => y = v) rfl (by decide) rfl (by decide) rfl ?_
  refine Call_ (nameX_B F X T rfl boot_range (by decide) ?_)
  refine PyProof.Rows.callWith_type1 (args_cons (wpAny_BinOp (Call_ (nameX_B F X T rfl boot_len (by decide) ?_))))
  refine callWith_builtin1 (args_cons (nameX_C N rfl hc2 hd2 (args_nil ?_)))
  refine PyProof.Rows.len_str (by omega) (wpAny_Constant_int (PyProof.Rows.add_int (args_nil ?_)))
  refine range_iter (N := x.length + 1) (by omega) (fun I h₁ tk₁ st₁ hI hI2 it₁ => ?_)
  refine ⟨I, _, _, _, _, _, rfl, walks_lt (Walks.range hh I 0 1 (x.length + 1)), by omega, it₁, in_one hI2, ⟨?_, ?_⟩, ?_⟩
  · -- the test
    intro C i v s₃ m₃ E' hC hv hn hvx kp _
    obtain ⟨hlt, t, rfl⟩ := hv
    have st₃ : ∀ b o, s.heap.get? b = some o → s₃.heap.get? b = some o := stays_but st₁ (in_one hI) kp
    have F₃ : Fr h₀ C s₃.heap m₃ := ⟨hn, fun b o e => st₃ b o (F.keep b o e), Nat.le_trans F.above (Nat.le_trans (Nat.le_of_lt (by obtain ⟨oL, _, _, hL, _⟩ := F.ns; exact Heap.lt_size (st₁ _ _ hL))) hC)⟩
    have hcell : s₃.heap.get? (L + 1 + 1) = some o2 := st₃ _ _ (N _ hc2).1
    have hi : i ≤ x.length := by omega
    refine wpAny_tests_one (wpAny_isTrue_Compare1 (Subscript_ (wpAny_Name (wpAny_loadName_cell rfl rfl rfl ⟨o2, hcell, hd2⟩ ?_))))
    refine wpAny_Slice (evalPart_some_step (wpAny_BinOp (Call_ (Name_function_global rfl rfl (loadGlobal_builtin (T.g.keeps F₃.keep) (mg_none_of X T.g rfl) (T.b.keeps F₃.keep) ((T.builtins _ (by decide)).trans boot_len) ?_)))))
    refine callWith_builtin1 (args_cons (wpAny_Name (wpAny_loadName_cell rfl rfl rfl ⟨o2, hcell, hd2⟩ (args_nil ?_))))
    refine PyProof.Rows.len_str (by omega) (wpAny_Name (wpAny_loadName_local rfl rfl hn hvx (PyProof.Rows.sub_int ?_)))
    refine evalPart_none_step (evalPart_none_step ?_)
    refine slice_sn_stays (fun h₄ t₄ k₄ st₄ => ?_) (by omega)
    refine wpAny_BinOp (Constant_str (wpAny_Name (wpAny_loadName_local rfl rfl (hn.keeps st₄) hvx ?_)))
    refine mul_blank (by omega) (by omega) (fun t₅ k₅ => ?_)
    refine PyProof.Rows.eq_str (wpAny_truthy_bool ⟨?_, h₄, _, rfl, st₄⟩)
    have e : (0 + (i : Int) * 1) = i := by omega
    rw [e, Int.toNat_natCast, tail_test hi]
    simp only [keepTo, Int.toNat_natCast]
  · -- the element
    intro C i v s₃ m₃ E' _ hv _ hn hvx kp _
    exact wpAny_Name (wpAny_loadName_local rfl rfl hn hvx ⟨rfl, keeps_refl _⟩)
  · -- the end
    intro D h' tk ys vs hD hlD hpD hlen' hP hF hk
    obtain ⟨ep, hpD⟩ := hpD
    have st' : ∀ b o, s.heap.get? b = some o → h'.get? b = some o := stays_but st₁ (in_one hI) hk
    have hDs : s.heap.get? D = none := by
      cases e : s.heap.get? D with
      | none => rfl
      | some o => have := st₁ D o e; rw [hD] at this; cases this
    have eys := paired_eq hF
    have hI' := ints_filter (p := keepTo (trail x.cps.toList)) (q := fun a => decide (a.toNat ≤ trail x.cps.toList)) (fun _ _ => rfl) (ints_of_range (a := 0) hlen' (fun j v hj => (hP j v hj).2))
    rw [filter_upto (by rw [← hlen]; exact trail_le _), ← eys] at hI'
    have N' := news_add F (news_stays N st') (o := listOf (List.toArray ys.toList) ep) (by rw [Array.toArray_toList]; exact hpD) hDs
    obtain ⟨v3, hd3⟩ := hd3
    have ne : ∀ {q : Addr × Obj} {c : Addr}, q ∈ (D, listOf (List.toArray ys.toList) ep) :: (D₁, listOf its ep₁) :: cells L o1 o2 o3 → (c, o3) ∈ (D, listOf (List.toArray ys.toList) ep) :: (D₁, listOf its ep₁) :: cells L o1 o2 o3 → (∃ us e, q.2 = listOf us e) → q.1 ≠ c := by
      intro q c hq hc ⟨us, e, hl⟩ heq
      have h1 := (N' q hq).1
      have h2 := (N' _ hc).1
      rw [heq] at h1
      rw [h2] at h1
      have h3 : o3 = q.2 := Option.some.inj h1
      rw [hl] at h3
      rw [h3] at hd3
      cases hd3
    have hc3 : (L + 1 + 1 + 1, o3) ∈ (D, listOf (List.toArray ys.toList) ep) :: (D₁, listOf its ep₁) :: cells L o1 o2 o3 := .tail _ (.tail _ (.head _))
    refine storeX_C (c := L + 1 + 1 + 1) (fr_stays F st') N' rfl (.tail (ne (.head _) hc3 ⟨_, _, rfl⟩) (.tail (ne (.tail _ (.head _)) hc3 ⟨_, _, rfl⟩) (.head (by k_all)))) hd3 (fun h₂ o' F₂ N₂ hd' => ?_)
    exact k h₂ tk D ys.toList o' ep F₂ N₂ hI' hd'
end
end Mine
/- comprehensions with two clauses, with tuples -/
namespace Mine

theorem turn0 (elt t0 i0 t1 i1 : Expr) (ifs1 : List Expr) (scope : Scope) (pos : Pos) (it acc : Value) (env : Env) :
    compTurn (.ListComp elt [⟨t0, i0, [], 0⟩, ⟨t1, i1, ifs1, 0⟩] scope pos) 0 it acc env = (do
      standAt i0.pos
      match ← pyNext it with
      | none => pure (.done .next)
      | some v =>
        letOwnedTupleGo t0 it v
        assign t0 env v
        let x ← eval i1 env
        standAt i1.pos
        let x ← foldedSetIterable i1 env x
        let it' ← holding [x] (pyIter x)
        let _ ← runOwn (.compStart (.ListComp elt [⟨t0, i0, [], 0⟩, ⟨t1, i1, ifs1, 0⟩] scope pos) 1 it' acc env) env
        again (.compLoop (.ListComp elt [⟨t0, i0, [], 0⟩, ⟨t1, i1, ifs1, 0⟩] scope pos) 0 it acc env)) := by rfl

theorem turn1 (elt t0 i0 t1 i1 : Expr) (ifs0 ifs1 : List Expr) (scope : Scope) (pos : Pos) (it acc : Value) (env : Env) :
    compTurn (.ListComp elt [⟨t0, i0, ifs0, 0⟩, ⟨t1, i1, ifs1, 0⟩] scope pos) 1 it acc env = (do
      standAt i1.pos
      match ← pyNext it with
      | none => pure (.done .next)
      | some v =>
        letOwnedTupleGo t1 it v
        assign t1 env v
        let mut ok := true
        for c in ifs1 do
          if ok then ok ← isTrue c env (eval c env)
        if ok then
          (do let _ ← call (.builtin "list.append") [acc, ← eval elt env])
        again (.compLoop (.ListComp elt [⟨t0, i0, ifs0, 0⟩, ⟨t1, i1, ifs1, 0⟩] scope pos) 1 it acc env)) := by rfl

section
variable {prog : Program} {w : World} {A : Around} {R : Result → Shared → Prop} {s : Shared}

theorem loop1 {elt t0 i0 t1 i1 : Expr} {ifs0 ifs1 : List Expr} {scope : Scope} {pos : Pos} {it acc : Value} {env : Env} (I : Nat → Shared → Prop)
    (turn : ∀ n s, I n s → wpAny (model prog w) A (pyNext it) (fun r s₁ => match r with
      | none => R (.ok .next) s₁
      | some v => wpAny (model prog w) A (assign t1 env v) (fun _ s₂ =>
          wpAny (model prog w) A (forIn ifs1 true fun c r => if r = true then do let ok ← isTrue c env (eval c env); pure (ForInStep.yield ok) else pure (ForInStep.yield r)) (fun ok s₃ =>
            if ok = true then wpAny (model prog w) A (eval elt env) (fun x s₄ =>
              wpAny (model prog w) A (call (.builtin "list.append") [acc, x]) (fun _ s₅ => ∃ m, m < n ∧ I m s₅) (fun _ _ => False) s₄) (fun _ _ => False) s₃
            else ∃ m, m < n ∧ I m s₃) (fun _ _ => False) s₂) (fun _ _ => False) s₁) (fun _ _ => False) s)
    (n : Nat) (h : I n s) (ht : ∀ v, letOwnedTupleGo t1 it v = pure ()) :
    codeAny (model prog w) A (.compLoop (.ListComp elt [⟨t0, i0, ifs0, 0⟩, ⟨t1, i1, ifs1, 0⟩] scope pos) 1 it acc env) R s := by
  refine codeAny_loop rfl I (fun n s hI => ?_) n h
  show wpAny _ A ((compTurn (.ListComp elt [⟨t0, i0, ifs0, 0⟩, ⟨t1, i1, ifs1, 0⟩] scope pos) 1 it acc env).onRaise (fun x => do noteFrame x env; theTreesLotGoes x)) _ _ s
  refine wpAny_noted (wpAny_mono (E := fun _ _ => False) ?_ (fun _ _ z => z) (fun _ _ z => z.elim))
  rw [turn1]
  refine wpAny_bind (wpAny_standAt (wpAny_bind (wpAny_mono (turn n s hI) (fun r s₁ h₁ => ?_) fun _ _ z => z)))
  cases r with
  | none => exact wpAny_pure h₁
  | some v =>
    refine wpAny_bind (wpAny_of_eq (ht v) ?_)
    refine wpAny_bind (wpAny_mono h₁ (fun _ s₂ h₂ => wpAny_bind (wpAny_mono h₂ (fun ok s₃ h₃ => ?_) fun _ _ z => z)) fun _ _ z => z)
    cases ok with
    | false => exact wpAny_pure ⟨rfl, h₃⟩
    | true => exact wpAny_bind (wpAny_bind (wpAny_mono h₃ (fun x s₄ h₄ => wpAny_bind (wpAny_mono h₄ (fun _ s₅ h₅ => wpAny_pure (wpAny_pure ⟨rfl, h₅⟩)) fun _ _ z => z)) fun _ _ z => z))

theorem loop0 {elt t0 i0 t1 i1 : Expr} {ifs1 : List Expr} {scope : Scope} {pos : Pos} {it acc : Value} {env : Env} (I : Nat → Shared → Prop)
    (turn : ∀ n s, I n s → wpAny (model prog w) A (pyNext it) (fun r s₁ => match r with
      | none => R (.ok .next) s₁
      | some v => wpAny (model prog w) A (assign t0 env v) (fun _ s₂ => wpAny (model prog w) A (eval i1 env) (fun x s₃ => wpAny (model prog w) A (pyIter x) (fun it' s₄ =>
          codeAny (model prog w) A (.compStart (.ListComp elt [⟨t0, i0, [], 0⟩, ⟨t1, i1, ifs1, 0⟩] scope pos) 1 it' acc env) (fun r s₅ => match r with | .ok _ => ∃ m, m < n ∧ I m s₅ | .error _ => False) s₄)
          (fun _ _ => False) s₃) (fun _ _ => False) s₂) (fun _ _ => False) s₁) (fun _ _ => False) s)
    (n : Nat) (h : I n s) (ht : ∀ v, letOwnedTupleGo t0 it v = pure ()) (hs : ∀ x, foldedSetIterable i1 env x = pure x) :
    codeAny (model prog w) A (.compLoop (.ListComp elt [⟨t0, i0, [], 0⟩, ⟨t1, i1, ifs1, 0⟩] scope pos) 0 it acc env) R s := by
  refine codeAny_loop rfl I (fun n s hI => ?_) n h
  show wpAny _ A ((compTurn (.ListComp elt [⟨t0, i0, [], 0⟩, ⟨t1, i1, ifs1, 0⟩] scope pos) 0 it acc env).onRaise (fun x => do noteFrame x env; theTreesLotGoes x)) _ _ s
  refine wpAny_noted (wpAny_mono (E := fun _ _ => False) ?_ (fun _ _ z => z) (fun _ _ z => z.elim))
  rw [turn0]
  refine wpAny_bind (wpAny_standAt (wpAny_bind (wpAny_mono (turn n s hI) (fun r s₁ h₁ => ?_) fun _ _ z => z)))
  cases r with
  | none => exact wpAny_pure h₁
  | some v =>
    refine wpAny_bind (wpAny_of_eq (ht v) ?_)
    refine wpAny_bind (wpAny_mono h₁ (fun _ s₂ h₂ => wpAny_bind (wpAny_mono h₂ (fun x s₃ h₃ => wpAny_bind (wpAny_standAt (wpAny_bind (wpAny_of_eq (hs x) (wpAny_bind (wpAny_holding (wpAny_mono h₃ (fun it' s₄ h₄ => ?_) fun _ _ z => z))))))) fun _ _ z => z)) fun _ _ z => z)
    refine wpAny_bind (wpAny_runOwn (codeAny_mono h₄ fun r s₅ h₅ => ?_))
    cases r with
    | ok f => exact wpAny_pure ⟨rfl, h₅⟩
    | error e => exact h₅.elim

theorem start1 {elt t0 i0 t1 i1 : Expr} {ifs0 ifs1 : List Expr} {scope : Scope} {pos : Pos} {it acc : Value} {env : Env}
    (h0 : codeAny (model prog w) A (.compLoop (.ListComp elt [⟨t0, i0, ifs0, 0⟩, ⟨t1, i1, ifs1, 0⟩] scope pos) 1 it acc env) R s)
    (h : wpAny (model prog w) A (pyIter it) (fun it' s' => codeAny (model prog w) A (.compLoop (.ListComp elt [⟨t0, i0, ifs0, 0⟩, ⟨t1, i1, ifs1, 0⟩] scope pos) 1 it' acc env) R s') (fun _ _ => False) s) :
    codeAny (model prog w) A (.compStart (.ListComp elt [⟨t0, i0, ifs0, 0⟩, ⟨t1, i1, ifs1, 0⟩] scope pos) 1 it acc env) R s := by
  refine codeAny_of_tree ?_
  show wpAny _ _ ((compStart (.ListComp elt [⟨t0, i0, ifs0, 0⟩, ⟨t1, i1, ifs1, 0⟩] scope pos) 1 it acc env).onRaise (fun x => do noteFrame x env; standAt theWindowsPlace)) _ _ s
  refine wpAny_notedAt (wpAny_mono (E := fun _ _ => False) ?_ (fun _ _ z => z) (fun _ _ z => z.elim))
  unfold compStart
  show wpAny _ _ (ask >>= _) _ _ s
  refine wpAny_bind (wpAny_askSetting (wpAny_ite ?_))
  split
  · first
      | exact wpAny_bind (wpAny_pure (wpAny_pure (And.intro rfl h0)))
      | exact wpAny_pure (And.intro rfl h0)
  · refine wpAny_bind (wpAny_rule ?_)
    show wpAny _ _ (standAt i1.pos >>= _) _ _ s
    exact wpAny_bind (wpAny_standAt (wpAny_bind (wpAny_mono h (fun it' s' h' => wpAny_pure (And.intro rfl h')) fun _ _ z => z)))
end
end Mine
namespace Mine

/-- v is a pair of ints, at an address outside X -/
def TupAt (X : List Addr) (h : Heap) (v : Value) (q : Int × Int) : Prop := ∃ T t u, v = .ref T ∧ T ∉ X ∧ IsTup h T #[.int q.1 t, .int q.2 u]
abbrev Tups (X : List Addr) (h : Heap) (vs : List Value) (qs : List (Int × Int)) : Prop := Paired (TupAt X h) vs qs
theorem paired_mono {α β : Type} {F G : α → β → Prop} (h : ∀ a b, F a b → G a b) : ∀ {l : List α} {r : List β}, Paired F l r → Paired G l r
  | _, _, .nil => .nil
  | _, _, .cons x t => .cons (h _ _ x) (paired_mono h t)
theorem Tups.keep {X : List Addr} {h h' : Heap} {vs : List Value} {qs : List (Int × Int)} (x : Tups X h vs qs) (k : ∀ b o, b ∉ X → h.get? b = some o → h'.get? b = some o) : Tups X h' vs qs :=
  paired_mono (fun _ _ ⟨T, t, u, e, hT, o, ho, r⟩ => ⟨T, t, u, e, hT, o, k T o hT ho, r⟩) x
theorem Tups.fresh {X : List Addr} {h : Heap} {J : Addr} {vs : List Value} {qs : List (Int × Int)} (x : Tups X h vs qs) (hJ : h.get? J = none) : Tups (J :: X) h vs qs :=
  paired_mono (fun _ _ ⟨T, t, u, e, hT, o, ho, r⟩ => ⟨T, t, u, e, fun hm => by
    rcases List.mem_cons.mp hm with rfl | hm
    · rw [hJ] at ho; cases ho
    · exact hT hm, o, ho, r⟩) x
theorem Tups.less {X : List Addr} {h : Heap} {J : Addr} {vs : List Value} {qs : List (Int × Int)} (x : Tups (J :: X) h vs qs) : Tups X h vs qs :=
  paired_mono (fun _ _ ⟨T, t, u, e, hT, r⟩ => ⟨T, t, u, e, fun hm => hT (.tail _ hm), r⟩) x

theorem take_snoc {α : Type} {l : List α} {i : Nat} {v : α} (h : l[i]? = some v) : l.take (i + 1) = l.take i ++ [v] := by
  rw [List.take_add_one, h]; rfl
theorem ints_get {vs : List Value} {ns : List Int} {i : Nat} {v : Value} (h : IntsAre vs ns) (hv : vs[i]? = some v) : ∃ n t, v = .int n t ∧ ns[i]? = some n := by
  induction h generalizing i with
  | nil => simp at hv
  | cons n t r ih =>
    cases i with
    | zero => simp at hv; exact ⟨n, t, hv.symm, rfl⟩
    | succ i => simpa using ih (by simpa using hv)

section
variable {prog : Program} {w : World} {A : Around} {R : Result → Shared → Prop} {s : Shared}

abbrev keepsIn (S h : Heap) : Prop := ∀ b o, S.get? b = some o → h.get? b = some o

/-- the inner clause of «[(a, b) for a in .. for b in .. if ..]» -/
theorem pairs_inner {elt t0 i0 i1 : Expr} {ifs0 ifs1 : List Expr} {scope : Scope} {pos p1 : Pos} {env : Env} {x0 x1 : Str} {C D I J lt : Addr} {S : Heap} {oI : Obj} {a : Int} {ta : Tok} {ts : List Value} {bs : List Int} (q : Int → Int → Bool)
    (hh : A.handled = none) (hC : env.locals = C) (hk : env.scope.kind = .function) (hx1 : env.kindOf x1 = some .local) (hne : x0 ≠ x1)
    (hCS : S.get? C = none) (hDS : S.get? D = none) (hIS : S.get? I = none) (hJS : S.get? J = none) (hCD : C ≠ D) (hCJ : C ≠ J) (hDJ : D ≠ J) (hIC : I ≠ C) (hID : I ≠ D) (hIJ : I ≠ J)
    (hlt : S.IsList lt ts.toArray) (hts : IntsAre ts bs)
    (test : ∀ (s₃ : Shared) m₃ b t, keepsIn S s₃.heap → s₃.heap.Ns C m₃ → m₃ x0 = some (.int a ta) → m₃ x1 = some (.int b t) → b ∈ bs →
      wpAny (model prog w) A (forIn ifs1 true fun c r => if r = true then do let ok ← isTrue c env (eval c env); pure (ForInStep.yield ok) else pure (ForInStep.yield r)) (fun ok s₄ => ok = q a b ∧ Keeps s₃ s₄) (fun _ _ => False) s₃)
    (helt : ∀ (s₃ : Shared) m₃ b t, keepsIn S s₃.heap → s₃.heap.Ns C m₃ → m₃ x0 = some (.int a ta) → m₃ x1 = some (.int b t) →
      wpAny (model prog w) A (eval elt env) (fun y s₄ => (∃ T t u, y = .ref T ∧ s₃.heap.get? T = none ∧ IsTup s₄.heap T #[.int a t, .int b u]) ∧ Keeps s₃ s₄) (fun _ _ => False) s₃)
    {qs : List (Int × Int)} {ys : Array Value} {m : Str → Option Value} (hsz : qs.length + bs.length ≤ sizeLine)
    (k0 : keepsIn S s.heap) (kJ : s.heap.IsListIter J lt 0) (kD : s.heap.PlainList D ys) (kC : s.heap.Ns C m) (km : m x0 = some (.int a ta)) (kT : Tups [J, I, C, D] s.heap ys.toList qs) (kI : s.heap.get? I = some oI)
    (hR : ∀ h' tk ys' m', keepsIn S h' → h'.PlainList D ys' → h'.Ns C m' → Tups [I, C, D] h' ys'.toList (qs ++ (bs.filter (q a)).map fun b => (a, b)) → h'.get? I = some oI → R (.ok .next) { s with heap := h', toks := tk }) :
    codeAny (model prog w) A (.compLoop (.ListComp elt [⟨t0, i0, ifs0, 0⟩, ⟨.Name x1 p1, i1, ifs1, 0⟩] scope pos) 1 (.ref J) (.ref D) env) R s := by
  have hltJ : lt ≠ J := by rintro rfl; obtain ⟨o, ho, _⟩ := hlt; rw [hJS] at ho; cases ho
  have hltC : lt ≠ C := by rintro rfl; obtain ⟨o, ho, _⟩ := hlt; rw [hCS] at ho; cases ho
  have hltD : lt ≠ D := by rintro rfl; obtain ⟨o, ho, _⟩ := hlt; rw [hDS] at ho; cases ho
  have W := Walks.list (prog := prog) (w := w) hh J lt hltJ ts.toArray
  have hl : ts.length = bs.length := hts.length
  have hp : (env.scope.kind == .class || (env.scope.kind == .module && env.locals != env.globals)) = false := by rw [hk]; rfl
  refine loop1 (fun n s' => ∃ (j : Nat) (h' : Heap) (tk : Nat) (ys' : Array Value) (m' : Str → Option Value), n = bs.length - j ∧ j ≤ bs.length ∧ s' = { s with heap := h', toks := tk } ∧ keepsIn S h' ∧ h'.IsListIter J lt j ∧ h'.PlainList D ys' ∧ h'.Ns C m' ∧ m' x0 = some (.int a ta) ∧
    Tups [J, I, C, D] h' ys'.toList (qs ++ ((bs.take j).filter (q a)).map fun b => (a, b)) ∧ h'.get? I = some oI) ?_ bs.length ⟨0, s.heap, s.toks, ys, m, by simp, by omega, rfl, k0, kJ, kD, kC, km, by simpa using kT, kI⟩ (fun _ => rfl)
  rintro n s' ⟨j, h₁, tk₁, ys₁, m₁, rfl, hj, rfl, a0, aJ, aD, aC, am, aT, aI⟩
  by_cases hlt' : j < bs.length
  · refine W.item j _ _ _ (by simpa [hl] using hlt') ⟨aJ, stays_list a0 hlt⟩ fun v h₂ tk₂ hv st₂ k₂ => ?_
    obtain ⟨b, t, rfl, hb⟩ := ints_get hts (i := j) (v := v) (by simpa using hv)
    have hbm : b ∈ bs := List.mem_of_getElem? hb
    have k2 : keepsIn S h₂ := fun c o e => k₂ c o (by simp; rintro rfl; rw [hJS] at e; cases e) (a0 c o e)
    have aC2 : h₂.Ns C m₁ := aC.at' fun o e => k₂ C o (by simp; exact hCJ) e
    refine wpAny_assign_Name (wpAny_storeName_local hx1 (by rw [hC]; exact aC2) (fun h₃ hn₃ hs₃ => ?_) hp)
    rw [hC] at hn₃ hs₃
    have k3 : keepsIn S h₃ := fun c o e => hs₃.extBut c o (by rintro rfl; rw [hCS] at e; cases e) (k2 c o e)
    have m0 : (fun y => if y = x1 then some (Value.int b t) else m₁ y) x0 = some (.int a ta) := by simp only [if_neg hne]; exact am
    refine wpAny_mono (test _ _ b t k3 hn₃ m0 (if_pos rfl) hbm) (fun ok s₄ h₄ => ?_) fun _ _ z => z
    obtain ⟨rfl, h₄, tk₄, rfl, st₄⟩ := h₄
    have k4 : keepsIn S h₄ := fun c o e => st₄ c o (k3 c o e)
    have up : ∀ c o, c ∉ [J, C] → h₁.get? c = some o → h₄.get? c = some o := fun c o hc e => st₄ c o (hs₃.extBut c o (fun z => hc (by simp [z])) (k₂ c o (fun z => hc (by simp at z; simp [z])) e))
    have tu : Tups [J, I, C, D] h₄ ys₁.toList (qs ++ ((bs.take j).filter (q a)).map fun b => (a, b)) := aT.keep fun c o hc e => up c o (fun z => hc (by simp at z ⊢; rcases z with z | z <;> simp [z])) e
    have itJ : h₄.IsListIter J lt (j + 1) := (st₂.1.extBut hs₃.extBut (Ne.symm hCJ)).at fun o e => st₄ _ o e
    have aD4 : h₄.PlainList D ys₁ := aD.at fun o e => up D o (by simp; exact ⟨hDJ, Ne.symm hCD⟩) e
    have aI4 : h₄.get? I = some oI := up I oI (by simp; exact ⟨hIJ, hIC⟩) aI
    have aC4 := hn₃.keeps st₄
    have e1 : (bs.take (j + 1)).filter (q a) = (bs.take j).filter (q a) ++ if q a b then [b] else [] := by
      rw [take_snoc hb, List.filter_append, List.filter_cons, List.filter_nil]
    cases hq : q a b with
    | false =>
      simp only [Bool.false_eq_true, if_false]
      rw [hq] at e1
      refine ⟨bs.length - (j + 1), by omega, j + 1, h₄, tk₄, ys₁, _, rfl, by omega, rfl, k4, itJ, aD4, aC4, m0, ?_, aI4⟩
      rw [e1]; simpa using tu
    | true =>
      simp only [if_true]
      rw [hq] at e1
      refine wpAny_mono (helt _ _ b t k4 aC4 m0 (if_pos rfl)) (fun y s₅ h₅ => ?_) fun _ _ z => z
      obtain ⟨⟨T, t1, u1, rfl, hTn, hTt⟩, h₅, tk₅, rfl, st₅⟩ := h₅
      have hys : ys₁.size ≤ sizeLine := by
        have e2 := aT.length
        rw [List.length_append, List.length_map, Array.length_toList] at e2
        have e3 : ((bs.take j).filter (q a)).length ≤ (bs.take j).length := List.length_filter_le _ _
        rw [List.length_take] at e3
        omega
      have hTD : T ≠ D := by rintro rfl; obtain ⟨ep, e⟩ := aD4; dsimp only at hTn; rw [e] at hTn; cases hTn
      have hTX : T ∉ [J, I, C, D] := by
        intro hm
        simp at hm
        rcases hm with rfl | rfl | rfl | rfl
        · obtain ⟨o, ho, _⟩ := itJ; dsimp only at hTn; rw [ho] at hTn; cases hTn
        · dsimp only at hTn; rw [aI4] at hTn; cases hTn
        · obtain ⟨o, _, _, ho, _⟩ := aC4; dsimp only at hTn; rw [ho] at hTn; cases hTn
        · exact hTD rfl
      refine wpAny_list_append_plain (aD4.at fun o e => st₅ _ o e) (fun h₆ hl₆ hs₆ => ?_) hys
      have up6 : ∀ c o, c ≠ D → h₄.get? c = some o → h₆.get? c = some o := fun c o hc e => hs₆.extBut c o hc (st₅ c o e)
      refine ⟨bs.length - (j + 1), by omega, j + 1, h₆, tk₅, ys₁.push (.ref T), _, rfl, by omega, rfl, fun c o e => up6 c o (by rintro rfl; rw [hDS] at e; cases e) (k4 c o e), itJ.at fun o e => up6 J o (Ne.symm hDJ) e, hl₆, (aC4.keeps st₅).sameBut hs₆ hCD, m0, ?_, up6 I oI hID aI4⟩
      rw [e1, Array.toList_push]
      simp only [if_true, List.map_append, List.map_cons, List.map_nil]
      rw [← List.append_assoc]
      obtain ⟨oT, hT1, hT2⟩ := hTt
      exact Paired.snoc (tu.keep fun c o hc e => up6 c o (fun z => hc (by simp [z])) e) ⟨T, t1, u1, rfl, hTX, oT, hs₆.extBut T _ hTD hT1, hT2⟩
  · have hin : j = bs.length := by omega
    subst hin
    refine W.done _ _ _ (by rw [List.size_toArray, hl]; exact ⟨aJ, stays_list a0 hlt⟩) fun h₂ tk₂ k₂ => ?_
    have up : ∀ c o, c ≠ J → h₁.get? c = some o → h₂.get? c = some o := fun c o hc e => k₂ c o (by simpa using hc) e
    refine hR h₂ tk₂ ys₁ m₁ (fun c o e => up c o (by rintro rfl; rw [hJS] at e; cases e) (a0 c o e)) (aD.at fun o e => up D o hDJ e) (aC.at' fun o e => up C o hCJ e) ?_ (up I oI hIJ aI)
    have := aT.keep (h' := h₂) fun c o hc e => up c o (fun z => hc (by simp [z])) e
    rw [List.take_of_length_le (Nat.le_refl _)] at this
    exact this.less

/-- what «[(a, b) for a in as for b in bs if q(a, b)]» gives -/
def pairsOf (q : Int → Int → Bool) (as bs : List Int) : List (Int × Int) := as.flatMap fun a => (bs.filter (q a)).map fun b => (a, b)
theorem pairsOf_len (q : Int → Int → Bool) (bs : List Int) : ∀ as : List Int, (pairsOf q as bs).length ≤ as.length * bs.length
  | [] => by simp [pairsOf]
  | a :: as => by
    have ih := pairsOf_len q bs as
    have h : (bs.filter (q a)).length ≤ bs.length := List.length_filter_le _ _
    unfold pairsOf at ih ⊢
    rw [List.flatMap_cons, List.length_append, List.length_map, List.length_cons, Nat.succ_mul]
    omega

theorem pairs_outer {elt i0 i1 : Expr} {ifs1 : List Expr} {scope : Scope} {pos p0 p1 : Pos} {env : Env} {x0 x1 : Str} {C D I lh lt : Addr} {S : Heap} {hs ts : List Value} {as bs : List Int} (q : Int → Int → Bool)
    (hh : A.handled = none) (hC : env.locals = C) (hk : env.scope.kind = .function) (hx0 : env.kindOf x0 = some .local) (hx1 : env.kindOf x1 = some .local) (hne : x0 ≠ x1)
    (hCS : S.get? C = none) (hDS : S.get? D = none) (hIS : S.get? I = none) (hCD : C ≠ D) (hIC : I ≠ C) (hID : I ≠ D)
    (hlh : S.IsList lh hs.toArray) (hhs : IntsAre hs as) (hlt : S.IsList lt ts.toArray) (hts : IntsAre ts bs)
    (second : ∀ (s₃ : Shared), keepsIn S s₃.heap → ∀ (Q : Value → Shared → Prop), Q (.ref lt) s₃ → wpAny (model prog w) A (eval i1 env) Q (fun _ _ => False) s₃) (hset : ∀ x, foldedSetIterable i1 env x = pure x)
    (test : ∀ a ta, a ∈ as → ∀ (s₃ : Shared) m₃ b t, keepsIn S s₃.heap → s₃.heap.Ns C m₃ → m₃ x0 = some (.int a ta) → m₃ x1 = some (.int b t) → b ∈ bs →
      wpAny (model prog w) A (forIn ifs1 true fun c r => if r = true then do let ok ← isTrue c env (eval c env); pure (ForInStep.yield ok) else pure (ForInStep.yield r)) (fun ok s₄ => ok = q a b ∧ Keeps s₃ s₄) (fun _ _ => False) s₃)
    (helt : ∀ a ta, ∀ (s₃ : Shared) m₃ b t, keepsIn S s₃.heap → s₃.heap.Ns C m₃ → m₃ x0 = some (.int a ta) → m₃ x1 = some (.int b t) →
      wpAny (model prog w) A (eval elt env) (fun y s₄ => (∃ T t u, y = .ref T ∧ s₃.heap.get? T = none ∧ IsTup s₄.heap T #[.int a t, .int b u]) ∧ Keeps s₃ s₄) (fun _ _ => False) s₃)
    {m : Str → Option Value} (hsz : as.length * bs.length + bs.length ≤ sizeLine)
    (k0 : keepsIn S s.heap) (kI : s.heap.IsListIter I lh 0) (kD : s.heap.PlainList D #[]) (kC : s.heap.Ns C m)
    (hR : ∀ h' tk ys' m', keepsIn S h' → h'.PlainList D ys' → h'.Ns C m' → Tups [I, C, D] h' ys'.toList (pairsOf q as bs) → R (.ok .next) { s with heap := h', toks := tk }) :
    codeAny (model prog w) A (.compLoop (.ListComp elt [⟨.Name x0 p0, i0, [], 0⟩, ⟨.Name x1 p1, i1, ifs1, 0⟩] scope pos) 0 (.ref I) (.ref D) env) R s := by
  have hlhI : lh ≠ I := by rintro rfl; obtain ⟨o, ho, _⟩ := hlh; rw [hIS] at ho; cases ho
  have W := Walks.list (prog := prog) (w := w) hh I lh hlhI hs.toArray
  have hl : hs.length = as.length := hhs.length
  have hp : (env.scope.kind == .class || (env.scope.kind == .module && env.locals != env.globals)) = false := by rw [hk]; rfl
  refine loop0 (fun n s' => ∃ (i : Nat) (h' : Heap) (tk : Nat) (ys' : Array Value) (m' : Str → Option Value), n = as.length - i ∧ i ≤ as.length ∧ s' = { s with heap := h', toks := tk } ∧ keepsIn S h' ∧ h'.IsListIter I lh i ∧ h'.PlainList D ys' ∧ h'.Ns C m' ∧
    Tups [I, C, D] h' ys'.toList (pairsOf q (as.take i) bs)) ?_ as.length ⟨0, s.heap, s.toks, #[], m, by simp, by omega, rfl, k0, kI, kD, kC, .nil⟩ (fun _ => rfl) hset
  rintro n s' ⟨i, h₁, tk₁, ys₁, m₁, rfl, hi, rfl, a0, aI, aD, aC, aT⟩
  by_cases hlt' : i < as.length
  · refine W.item i _ _ _ (by simpa [hl] using hlt') ⟨aI, stays_list a0 hlh⟩ fun v h₂ tk₂ hv st₂ k₂ => ?_
    obtain ⟨a, ta, rfl, ha⟩ := ints_get hhs (i := i) (v := v) (by simpa using hv)
    have ham : a ∈ as := List.mem_of_getElem? ha
    have k2 : keepsIn S h₂ := fun c o e => k₂ c o (by simp; rintro rfl; rw [hIS] at e; cases e) (a0 c o e)
    have aC2 : h₂.Ns C m₁ := aC.at' fun o e => k₂ C o (by simp; exact Ne.symm hIC) e
    refine wpAny_assign_Name (wpAny_storeName_local hx0 (by rw [hC]; exact aC2) (fun h₃ hn₃ hs₃ => ?_) hp)
    rw [hC] at hn₃ hs₃
    have k3 : keepsIn S h₃ := fun c o e => hs₃.extBut c o (by rintro rfl; rw [hCS] at e; cases e) (k2 c o e)
    refine second _ k3 _ ?_
    refine wpAny_pyIter_list (stays_list k3 hlt) ?_
    have up : ∀ c o, c ∉ [I, C] → h₁.get? c = some o → (h₃.push { cls := .type "list_iterator", data := .fields #[.ref lt, .int 0 0] }).get? c = some o :=
      fun c o hc e => Heap.get?_push_of_some _ (hs₃.extBut c o (fun z => hc (by simp [z])) (k₂ c o (fun z => hc (by simp at z; simp [z])) e))
    have itI : h₃.IsListIter I lh (i + 1) := st₂.1.extBut hs₃.extBut hIC
    obtain ⟨oI, hoI, rI⟩ := id itI
    have aD3 : h₃.PlainList D ys₁ := aD.at fun o e => hs₃.extBut D o (Ne.symm hCD) (k₂ D o (by simp; exact Ne.symm hID) e)
    have tu : Tups [I, C, D] h₃ ys₁.toList (pairsOf q (as.take i) bs) := aT.keep fun c o hc e => hs₃.extBut c o (fun z => hc (by simp [z])) (k₂ c o (fun z => hc (by simp at z; simp [z])) e)
    have hJ3 : h₃.get? h₃.objs.size = none := fresh_size (Nat.le_refl _)
    have hJS : S.get? h₃.objs.size = none := by
      cases e : S.get? h₃.objs.size with
      | none => rfl
      | some o => have := k3 _ o e; rw [hJ3] at this; cases this
    have neJ : ∀ {c : Addr} {o : Obj}, h₃.get? c = some o → c ≠ h₃.objs.size := fun e z => by rw [z, hJ3] at e; cases e
    obtain ⟨oC, _, _, hoC, _⟩ := id hn₃
    obtain ⟨epD, hoD⟩ := id aD3
    have inner : ∀ (s₄ : Shared), s₄ = { s with heap := h₃.push { cls := .type "list_iterator", data := .fields #[.ref lt, .int 0 0] }, toks := tk₂ + 1 } →
        codeAny (model prog w) A (.compLoop (.ListComp elt [⟨.Name x0 p0, i0, [], 0⟩, ⟨.Name x1 p1, i1, ifs1, 0⟩] scope pos) 1 (.ref h₃.objs.size) (.ref D) env)
          (fun r s₅ => match r with | .ok _ => (∃ n', n' < as.length - i ∧ ∃ (i' : Nat) (h' : Heap) (tk : Nat) (ys' : Array Value) (m' : Str → Option Value), n' = as.length - i' ∧ i' ≤ as.length ∧ s₅ = { s with heap := h', toks := tk } ∧ keepsIn S h' ∧ h'.IsListIter I lh i' ∧ h'.PlainList D ys' ∧ h'.Ns C m' ∧
    Tups [I, C, D] h' ys'.toList (pairsOf q (as.take i') bs)) | .error _ => False) s₄ := by
      rintro s₄ rfl
      refine pairs_inner (I := I) (oI := oI) (a := a) (ta := ta) q hh hC hk hx1 hne hCS hDS hIS hJS hCD (neJ hoC) (neJ hoD) hIC hID (neJ hoI) hlt hts (test a ta ham) (helt a ta) (qs := pairsOf q (as.take i) bs) ?_ (fun c o e => Heap.get?_push_of_some _ (k3 c o e)) ⟨_, Heap.get?_push_size _ rfl, rfl, rfl⟩ (aD3.at fun o e => Heap.get?_push_of_some _ e)
        (hn₃.keeps fun _ _ e => Heap.get?_push_of_some _ e) (if_pos rfl) ?_ (Heap.get?_push_of_some _ hoI) ?_
      · have := pairsOf_len q bs (as.take i)
        rw [List.length_take, Nat.min_eq_left (by omega)] at this
        have : i * bs.length ≤ as.length * bs.length := Nat.mul_le_mul_right _ (by omega)
        omega
      · exact (tu.fresh hJ3).keep fun c o _ e => Heap.get?_push_of_some _ e
      · intro h' tk ys' m' k5 d5 n5 t5 i5
        refine ⟨as.length - (i + 1), by omega, i + 1, h', tk, ys', m', rfl, by omega, rfl, k5, ⟨oI, i5, rI⟩, d5, n5, ?_⟩
        have e1 : pairsOf q (as.take (i + 1)) bs = pairsOf q (as.take i) bs ++ (bs.filter (q a)).map fun b => (a, b) := by
          unfold pairsOf
          rw [take_snoc ha, List.flatMap_append]
          simp
        rw [e1]
        exact t5
    exact start1 (inner _ rfl) (wpAny_pyIter_listiter ⟨_, Heap.get?_push_size _ rfl, rfl, rfl⟩ (inner _ rfl))
  · have hin : i = as.length := by omega
    subst hin
    refine W.done _ _ _ (by rw [List.size_toArray, hl]; exact ⟨aI, stays_list a0 hlh⟩) fun h₂ tk₂ k₂ => ?_
    have up : ∀ c o, c ≠ I → h₁.get? c = some o → h₂.get? c = some o := fun c o hc e => k₂ c o (by simpa using hc) e
    refine hR h₂ tk₂ ys₁ m₁ (fun c o e => up c o (by rintro rfl; rw [hIS] at e; cases e) (a0 c o e)) (aD.at fun o e => up D o (Ne.symm hID) e) (aC.at' fun o e => up C o (Ne.symm hIC) e) ?_
    have := aT.keep (h' := h₂) fun c o hc e => up c o (fun z => hc (by simp [z])) e
    rw [List.take_of_length_le (Nat.le_refl _)] at this
    exact this
end
end Mine
namespace Mine

theorem Tups.not_ns {X : List Addr} {h : Heap} {L : Addr} {m : Str → Option Value} {vs : List Value} {qs : List (Int × Int)} (x : Tups X h vs qs) (n : h.Ns L m) : Tups [L] h vs qs := by
  refine paired_mono ?_ x
  rintro v q ⟨T, t, u, e, _, o, ho, hc, ep, hd⟩
  refine ⟨T, t, u, e, fun hm => ?_, o, ho, hc, ep, hd⟩
  obtain rfl : T = L := by simpa using hm
  obtain ⟨o', es, ep', ho', hd', _⟩ := n
  rw [ho] at ho'
  cases ho'
  rw [hd] at hd'
  cases hd'

section
variable {prog : Program} {w : World} {A : Around} {E : Value → Shared → Prop} {s : Shared} {h₀ : Heap} {L fa : Addr} {m mg mb : Str → Option Value} {cd : Value} {Q : Flow → Shared → Prop} {p : Program} {loose : List Str} {news : List (Addr × Obj)}

/-- «y = [elt for x0 in i0 for x1 in i1 if ..]», the element a pair of ints -/
theorem assign_pairs {env : Env} {elt i0 i1 : Expr} {ifs1 : List Expr} {scope : Scope} {cl : List (Str × Addr)} {pos spos p0 p1 py : Pos} {x0 x1 y : Str} {lh lt : Addr} {hs ts : List Value} {as bs : List Int} (q : Int → Int → Bool)
    (hsw : swapsWith (.ListComp elt [⟨.Name x0 p0, i0, [], 0⟩, ⟨.Name x1 p1, i1, ifs1, 0⟩] scope pos) (some (.Name y py)) spos.line env = pure true)
    (hset0 : ∀ x, foldedSetIterable i0 env x = pure x) (hclos : closureFor scope env = pure cl) (hcell : ∀ z ∈ scope.names, z.2 ≠ .cell) (hkind : scope.kind = .function)
    (hnames : ∀ z ∈ scope.names, z.2 = .local → scope.names.lookup z.1 = some .local) (hx0 : scope.names.lookup x0 = some .local) (hx1 : scope.names.lookup x1 = some .local) (hne : x0 ≠ x1)
    (hy : env.kindOf y = some .local) (hp : (env.scope.kind == .class || (env.scope.kind == .module && env.locals != env.globals)) = false)
    (hn : s.heap.Ns L m) (hL : env.locals = L) (hh : A.handled = none)
    (first : ∀ Q' : Value → Shared → Prop, Q' (.ref lh) s → wpAny (model prog w) A (eval i0 env) Q' E s)
    (hlh : s.heap.IsList lh hs.toArray) (hhs : IntsAre hs as) (hlt : s.heap.IsList lt ts.toArray) (hts : IntsAre ts bs)
    (second : ∀ C (s₃ : Shared), keepsIn s.heap s₃.heap → ∀ Q' : Value → Shared → Prop, Q' (.ref lt) s₃ → wpAny (model prog w) A (eval i1 (compEnvC scope cl C env)) Q' (fun _ _ => False) s₃)
    (hset1 : ∀ C x, foldedSetIterable i1 (compEnvC scope cl C env) x = pure x)
    (test : ∀ C, s.heap.objs.size ≤ C → ∀ a ta, a ∈ as → ∀ (s₃ : Shared) m₃ b t, keepsIn s.heap s₃.heap → s₃.heap.Ns C m₃ → m₃ x0 = some (.int a ta) → m₃ x1 = some (.int b t) → b ∈ bs →
      wpAny (model prog w) A (forIn ifs1 true fun c r => if r = true then do let ok ← isTrue c (compEnvC scope cl C env) (eval c (compEnvC scope cl C env)); pure (ForInStep.yield ok) else pure (ForInStep.yield r)) (fun ok s₄ => ok = q a b ∧ Keeps s₃ s₄) (fun _ _ => False) s₃)
    (helt : ∀ C, s.heap.objs.size ≤ C → ∀ a ta, ∀ (s₃ : Shared) m₃ b t, keepsIn s.heap s₃.heap → s₃.heap.Ns C m₃ → m₃ x0 = some (.int a ta) → m₃ x1 = some (.int b t) →
      wpAny (model prog w) A (eval elt (compEnvC scope cl C env)) (fun y s₄ => (∃ T t u, y = .ref T ∧ s₃.heap.get? T = none ∧ IsTup s₄.heap T #[.int a t, .int b u]) ∧ Keeps s₃ s₄) (fun _ _ => False) s₃)
    (hsz : as.length * bs.length + bs.length ≤ sizeLine)
    (hQ : ∀ h' tk D ys, s.heap.get? D = none → h'.IsList D ys → Tups [L] h' ys.toList (pairsOf q as bs) → h'.Ns L (fun z => if z = y then some (.ref D) else m z) → (∀ b o, b ≠ L → s.heap.get? b = some o → h'.get? b = some o) → Q .next { s with heap := h', toks := tk }) :
    wpAny (model prog w) A (exec (.Assign [.Name y py] (.ListComp elt [⟨.Name x0 p0, i0, [], 0⟩, ⟨.Name x1 p1, i1, ifs1, 0⟩] scope pos) spos) env) Q E s := by
  rw [exec_Assign_Name_used _ _ _ _ hsw]
  refine wpAny_bind (wpAny_standAt (wpAny_bind ?_))
  show wpAny _ A (do let _ ← comprehension (.ListComp elt [⟨.Name x0 p0, i0, [], 0⟩, ⟨.Name x1 p1, i1, ifs1, 0⟩] scope pos) scope env _ (newList []) false (eval i0 env) (some (assign (.Name y py) env))) _ _ s
  refine wpAny_bind (wpAny_mono (wpAny_comprehension_free (use := some (assign (.Name y py) env)) (cl := cl) (Q := fun _ s' => Q .next s') rfl hset0 hclos hkind hnames ?_) (fun _ s' hq => wpAny_pure (wpAny_pure hq)) fun _ _ z => z)
  refine first _ (wpAny_pyIter_list hlh ?_)
  refine wpAny_newObj_type (wpAny_newFunctionEnv hcell (by intro y hy; simp at hy) (fun h₁ hns₁ hsb₁ => ?_) hkind)
  dsimp only at hns₁ hsb₁ ⊢
  generalize hH1 : s.heap.push { cls := .type "list_iterator", data := .fields #[.ref lh, .int 0 0] } = H1 at hns₁ hsb₁ ⊢
  generalize hH2 : H1.push { cls := .type "list", dict := none, data := .seq ([] : List Value).toArray } = H2 at hns₁ hsb₁ ⊢
  have z1 : H1.objs.size = s.heap.objs.size + 1 := by rw [← hH1, Heap.size_push]
  have z2 : H2.objs.size = s.heap.objs.size + 1 + 1 := by rw [← hH2, Heap.size_push, z1]
  have old : ∀ b o, H2.get? b = some o → h₁.get? b = some o := fun b o e => hsb₁.extBut b o (Nat.ne_of_lt (Heap.lt_size e)) (Heap.get?_push_of_some _ e)
  have old0 : keepsIn s.heap h₁ := fun b o e => old b o (by rw [← hH2, ← hH1]; exact Heap.get?_push_of_some _ (Heap.get?_push_of_some _ e))
  have itI : h₁.IsListIter s.heap.objs.size lh 0 := ⟨_, old _ _ (by rw [← hH2, ← hH1]; exact Heap.get?_push_of_some _ (Heap.get?_push_size _ rfl)), rfl, rfl⟩
  have accD : h₁.PlainList H1.objs.size #[] := ⟨_, old _ _ (by rw [← hH2]; exact Heap.get?_push_size _ rfl)⟩
  have fC : s.heap.get? H2.objs.size = none := fresh_size (by rw [z2]; exact Nat.le_succ_of_le (Nat.le_succ _))
  have fD : s.heap.get? H1.objs.size = none := fresh_size (by rw [z1]; exact Nat.le_succ _)
  have outer : ∀ s₃ : Shared, s₃ = { s with heap := h₁, toks := s.toks + ([] : List (Str × Value)).length } →
      codeAny (model prog w) A (.compLoop (.ListComp elt [⟨.Name x0 p0, i0, [], 0⟩, ⟨.Name x1 p1, i1, ifs1, 0⟩] scope pos) 0 (.ref s.heap.objs.size) (.ref H1.objs.size) (compEnvC scope cl H2.objs.size env))
        (compPost (model prog w) A E (some (assign (.Name y py) env)) (fun _ s' => Q .next s') (.ref H1.objs.size) H2.objs.size) s₃ := by
    rintro s₃ rfl
    refine pairs_outer (S := s.heap) q hh rfl hkind (lookup_relabel_local hx0) (lookup_relabel_local hx1) hne fC fD (fresh_size (Nat.le_refl _)) (by rw [z1, z2]; exact Nat.ne_of_gt (Nat.lt_succ_self _)) (by rw [z2]; exact Nat.ne_of_lt (Nat.lt_succ_of_lt (Nat.lt_succ_self _))) (by rw [z1]; exact Nat.ne_of_lt (Nat.lt_succ_self _)) hlh hhs hlt hts (second _) (hset1 _)
      (test _ (by rw [z2]; exact Nat.le_succ_of_le (Nat.le_succ _))) (helt _ (by rw [z2]; exact Nat.le_succ_of_le (Nat.le_succ _))) hsz old0 itI accD hns₁ ?_
    intro h' tk ys' m' k5 d5 n5 t5
    have hLC : env.locals ≠ H2.objs.size := by rw [hL]; rintro rfl; obtain ⟨o, _, _, ho, _⟩ := hn; rw [fC] at ho; cases ho
    have hLD : env.locals ≠ H1.objs.size := by rw [hL]; rintro rfl; obtain ⟨o, _, _, ho, _⟩ := hn; rw [fD] at ho; cases ho
    show wpAny _ A (assign (.Name y py) env (.ref H1.objs.size)) _ _ _
    refine wpAny_assign_Name (wpAny_storeName_local hy (by rw [hL]; exact hn.keeps k5) (fun h₆ hn₆ hs₆ => ?_) hp)
    rw [hL] at hn₆ hs₆ hLC hLD
    refine ⟨m', n5.sameBut hs₆ (Ne.symm hLC), fun h₇ hs₇ => ?_⟩
    have t6 : Tups [L] h₆ ys'.toList (pairsOf q as bs) := (t5.not_ns (hn.keeps k5)).keep fun c o hc e => hs₆.extBut c o (by simpa using hc) e
    have t7 : Tups [H2.objs.size] h₆ ys'.toList (pairsOf q as bs) := t6.not_ns (n5.sameBut hs₆ (Ne.symm hLC))
    have t8 := t7.keep (h' := h₇) fun c o hc e => hs₇.extBut c o (by simpa using hc) e
    exact hQ h₇ _ H1.objs.size ys' fD (((d5.isList).extBut hs₆.extBut (Ne.symm hLD)).extBut hs₇.extBut (by rw [z1, z2]; exact Nat.ne_of_lt (Nat.lt_succ_self _))) (t8.not_ns (hn₆.sameBut hs₇ hLC)) (hn₆.sameBut hs₇ hLC)
      fun b o hb e => hs₇.extBut b o (by rintro rfl; rw [fC] at e; cases e) (hs₆.extBut b o hb (k5 b o e))
  exact codeAny_compStart_list (outer _ rfl) (wpAny_pyIter_listiter itI (outer _ rfl))
end
end Mine
namespace Mine

section
variable {prog : Program} {w : World} {A : Around} {E : Value → Shared → Prop} {s : Shared} {h₀ : Heap} {L fa : Addr} {m mg mb : Str → Option Value} {cd : Value} {Q : Flow → Shared → Prop} {p : Program} {loose : List Str} {news : List (Addr × Obj)}

theorem frame_base (F : Fr h₀ L s.heap m) {b : Addr} {o : Obj} (e : h₀.get? b = some o) : b ≠ L := fun hb => absurd (Heap.lt_size e) (Nat.not_lt.mpr (hb ▸ F.above))

/-- cuts = [(a, b) for a in heads for b in tails if a + b <= len(text)] -/
theorem st_cuts {o2 o3 : Obj} {x : Str} {tx : Tok} {lh lt : Addr} {hs ts : List Value} {as bs : List Int} (F : Fr h₀ L s.heap m) (N : News h₀ L s.heap news) (X : (Mine.hd01.heap_39 w.params).In h₀) (T : TopRead p loose mg mb h₀)
    (hc2 : (L + 1 + 1, o2) ∈ news) (hd2 : o2.data = .cell (some (.str x tx))) (hc3 : (L + 1 + 1 + 1, o3) ∈ news) (hd3 : o3.data = .cell (some (.ref lt))) (hx : x.length ≤ 300) (hh : A.handled = none)
    (hm : m "heads" = some (.ref lh)) (hlh : s.heap.IsList lh hs.toArray) (hhs : IntsAre hs as) (hlt : s.heap.IsList lt ts.toArray) (hts : IntsAre ts bs) (hla : as.length ≤ 301) (hlb : bs.length ≤ 301)
    (k : ∀ h' tk D ys m', Fr h₀ L h' m' → News h₀ L h' news → h'.IsList D ys → Tups [L] h' ys.toList (pairsOf (fun a b => decide (a + b ≤ x.length)) as bs) → m' "cuts" = some (.ref D) → (∀ y, y ≠ ("cuts" : Str) → m' y = m y) → wpAny (model prog w) A (execs (lawB.drop 10) (lawE L fa cd)) Q E { s with heap := h', toks := tk }) :
    wpAny (model prog w) A (execs (lawB.drop 9) (lawE L fa cd)) Q E s := by
  have hsl : sizeLine = 16777216 := rfl
  refine wpAny_execs_cons ?_
  refine assign_pairs (cl := [("text", L + 1 + 1), ("tails", L + 1 + 1 + 1)]) (fun a b => decide (a + b ≤ x.length)) rfl (fun _ => rfl) rfl (by decide) rfl (by decide) rfl rfl (by decide) rfl rfl F.ns rfl hh (fun Q' h => nameX_L F hm h) hlh hhs hlt hts ?_ (fun _ _ => rfl) ?_ ?_ ?_ ?_
  · intro C s₃ k₃ Q' h
    exact wpAny_Name (wpAny_loadName_cell rfl rfl rfl ⟨o3, k₃ _ _ (N _ hc3).1, hd3⟩ h)
  · intro C hC a ta ha s₃ m₃ b t k₃ hn h0 h1 hb
    have hg : ∀ c o, h₀.get? c = some o → s₃.heap.get? c = some o := fun c o e => k₃ c o (F.keep c o e)
    refine wpAny_tests_one (wpAny_isTrue_Compare1 (wpAny_BinOp (wpAny_Name (wpAny_loadName_local rfl rfl hn h0 (wpAny_Name (wpAny_loadName_local rfl rfl hn h1 (PyProof.Rows.add_int ?_)))))))
    refine Call_ (Name_function_global rfl rfl (loadGlobal_builtin (T.g.keeps hg) (mg_none_of X T.g rfl) (T.b.keeps hg) ((T.builtins _ (by decide)).trans boot_len) ?_))
    refine callWith_builtin1 (args_cons (wpAny_Name (wpAny_loadName_cell rfl rfl rfl ⟨o2, k₃ _ _ (N _ hc2).1, hd2⟩ (args_nil ?_))))
    refine PyProof.Rows.len_str (by omega) (PyProof.Rows.le_int (wpAny_truthy_bool ⟨rfl, s₃.heap, _, rfl, fun _ _ e => e⟩))
  · intro C hC a ta s₃ m₃ b t k₃ hn h0 h1
    refine Tuple_ (args_cons (wpAny_Name (wpAny_loadName_local rfl rfl hn h0 (args_cons (wpAny_Name (wpAny_loadName_local rfl rfl hn h1 (args_nil ?_)))))))
    refine wpAny_newObj_type ?_
    exact ⟨⟨_, ta, t, rfl, fresh_size (Nat.le_refl _), _, Heap.get?_push_size _ rfl, rfl, _, rfl⟩, _, _, rfl, fun _ _ e => Heap.get?_push_of_some _ e⟩
  · have := Nat.mul_le_mul hla hlb
    omega
  · intro h' tk D ys hD hlD hT hn' hk
    refine k h' tk D ys _ ⟨hn', fun b o e => hk b o (frame_base F e) (F.keep b o e), F.above⟩ (fun q hq => ⟨hk _ _ (N q hq).2.1 (N q hq).1, (N q hq).2.1, (N q hq).2.2⟩) hlD hT rfl (fun y hy => if_neg hy)
end
end Mine
namespace Mine
section
variable {prog : Program} {w : World} {A : Around} {R : Result → Shared → Prop} {E : Value → Shared → Prop} {s : Shared}

theorem owned_list {elts : List Expr} {k : Nat} {pos : Pos} {I l : Addr} {i : Nat} {v : Value} {Q : Unit → Shared → Prop} (hI : s.heap.IsListIter I l i) (h : Q () s) : wpAny (model prog w) A (letOwnedTupleGo (.Tuple elts k pos) (.ref I) v) Q E s := by
  obtain ⟨o, ho, hc, hd⟩ := hI
  unfold letOwnedTupleGo
  cases v with
  | ref a =>
    refine wpAny_bind (wpAny_load ho ?_)
    rw [hc, hd]
    exact wpAny_pure h
  | _ => exact wpAny_pure h

/-- one clause, a tuple of names for its target -/
theorem loopT {elt iter : Expr} {elts : List Expr} {kk : Nat} {tpos : Pos} {ifs : List Expr} {scope : Scope} {pos : Pos} {I l : Addr} {acc : Value} {env : Env} (J : Nat → Shared → Prop)
    (turn : ∀ n s, J n s → wpAny (model prog w) A (pyNext (.ref I)) (fun r s₁ => match r with
      | none => R (.ok .next) s₁
      | some v => (∃ i, s₁.heap.IsListIter I l i) ∧ wpAny (model prog w) A (assign (.Tuple elts kk tpos) env v) (fun _ s₂ =>
          wpAny (model prog w) A (forIn ifs true fun c r => if r = true then do let ok ← isTrue c env (eval c env); pure (ForInStep.yield ok) else pure (ForInStep.yield r)) (fun ok s₃ =>
            if ok = true then wpAny (model prog w) A (eval elt env) (fun x s₄ =>
              wpAny (model prog w) A (call (.builtin "list.append") [acc, x]) (fun _ s₅ => ∃ m, m < n ∧ J m s₅) (fun _ _ => False) s₄) (fun _ _ => False) s₃
            else ∃ m, m < n ∧ J m s₃) (fun _ _ => False) s₂) (fun _ _ => False) s₁) (fun _ _ => False) s)
    (n : Nat) (h : J n s) :
    codeAny (model prog w) A (.compLoop (.ListComp elt [⟨.Tuple elts kk tpos, iter, ifs, 0⟩] scope pos) 0 (.ref I) acc env) R s := by
  refine codeAny_loop rfl J (fun n s hI => ?_) n h
  show wpAny _ A ((compTurn (.ListComp elt [⟨.Tuple elts kk tpos, iter, ifs, 0⟩] scope pos) 0 (.ref I) acc env).onRaise (fun x => do noteFrame x env; theTreesLotGoes x)) _ _ s
  refine wpAny_noted (wpAny_mono (E := fun _ _ => False) ?_ (fun _ _ z => z) (fun _ _ z => z.elim))
  rw [compTurn_list]
  refine wpAny_bind (wpAny_standAt (wpAny_bind (wpAny_mono (turn n s hI) (fun r s₁ h₁ => ?_) fun _ _ z => z)))
  cases r with
  | none => exact wpAny_pure h₁
  | some v =>
    obtain ⟨⟨i, hi⟩, h₁⟩ := h₁
    refine wpAny_bind (owned_list hi ?_)
    refine wpAny_bind (wpAny_mono h₁ (fun _ s₂ h₂ => wpAny_bind (wpAny_mono h₂ (fun ok s₃ h₃ => ?_) fun _ _ z => z)) fun _ _ z => z)
    cases ok with
    | false => exact wpAny_pure ⟨rfl, h₃⟩
    | true => exact wpAny_bind (wpAny_bind (wpAny_mono h₃ (fun x s₄ h₄ => wpAny_bind (wpAny_mono h₄ (fun _ s₅ h₅ => wpAny_pure (wpAny_pure ⟨rfl, h₅⟩)) fun _ _ z => z)) fun _ _ z => z))

theorem tups_get {X : List Addr} {h : Heap} {vs : List Value} {qs : List (Int × Int)} {i : Nat} {v : Value} (x : Tups X h vs qs) (hv : vs[i]? = some v) : ∃ q, qs[i]? = some q ∧ TupAt X h v q := by
  induction x generalizing i with
  | nil => simp at hv
  | cons hx r ih =>
    cases i with
    | zero => simp at hv; subst hv; exact ⟨_, rfl, hx⟩
    | succ i => simpa using ih (by simpa using hv)

/-- «[(x0, x1) for x0, x1 in l if q(x0, x1)]» -/
theorem pairs_filter {iter elt : Expr} {ifs : List Expr} {scope : Scope} {pos p0 p1 tpos : Pos} {kk : Nat} {env : Env} {x0 x1 : Str} {C D I l : Addr} {S : Heap} {us : Array Value} {qs : List (Int × Int)} (q : Int → Int → Bool)
    (hh : A.handled = none) (hC : env.locals = C) (hk : env.scope.kind = .function) (hx0 : env.kindOf x0 = some .local) (hx1 : env.kindOf x1 = some .local) (hne : x0 ≠ x1)
    (hCS : S.get? C = none) (hDS : S.get? D = none) (hIS : S.get? I = none) (hCD : C ≠ D) (hIC : I ≠ C) (hID : I ≠ D)
    (hl : S.IsList l us) (hu : Tups [] S us.toList qs)
    (test : ∀ a ta, ∀ (s₃ : Shared) m₃ b t, keepsIn S s₃.heap → s₃.heap.Ns C m₃ → m₃ x0 = some (.int a ta) → m₃ x1 = some (.int b t) →
      wpAny (model prog w) A (forIn ifs true fun c r => if r = true then do let ok ← isTrue c env (eval c env); pure (ForInStep.yield ok) else pure (ForInStep.yield r)) (fun ok s₄ => ok = q a b ∧ Keeps s₃ s₄) (fun _ _ => False) s₃)
    (helt : ∀ a ta, ∀ (s₃ : Shared) m₃ b t, keepsIn S s₃.heap → s₃.heap.Ns C m₃ → m₃ x0 = some (.int a ta) → m₃ x1 = some (.int b t) →
      wpAny (model prog w) A (eval elt env) (fun y s₄ => (∃ T t u, y = .ref T ∧ s₃.heap.get? T = none ∧ IsTup s₄.heap T #[.int a t, .int b u]) ∧ Keeps s₃ s₄) (fun _ _ => False) s₃)
    {m : Str → Option Value} (hsz : qs.length ≤ sizeLine)
    (k0 : keepsIn S s.heap) (kI : s.heap.IsListIter I l 0) (kD : s.heap.PlainList D #[]) (kC : s.heap.Ns C m)
    (hR : ∀ h' tk ys' m', keepsIn S h' → h'.PlainList D ys' → h'.Ns C m' → Tups [I, C, D] h' ys'.toList (qs.filter fun z => q z.1 z.2) → R (.ok .next) { s with heap := h', toks := tk }) :
    codeAny (model prog w) A (.compLoop (.ListComp elt [⟨.Tuple [.Name x0 p0, .Name x1 p1] kk tpos, iter, ifs, 0⟩] scope pos) 0 (.ref I) (.ref D) env) R s := by
  have hlI : l ≠ I := by rintro rfl; obtain ⟨o, ho, _⟩ := hl; rw [hIS] at ho; cases ho
  have W := Walks.list (prog := prog) (w := w) hh I l hlI us
  have hlen : us.size = qs.length := by rw [← Array.length_toList]; exact hu.length
  have hp : (env.scope.kind == .class || (env.scope.kind == .module && env.locals != env.globals)) = false := by rw [hk]; rfl
  refine loopT (l := l) (fun n s' => ∃ (i : Nat) (h' : Heap) (tk : Nat) (ys' : Array Value) (m' : Str → Option Value), n = qs.length - i ∧ i ≤ qs.length ∧ s' = { s with heap := h', toks := tk } ∧ keepsIn S h' ∧ h'.IsListIter I l i ∧ h'.PlainList D ys' ∧ h'.Ns C m' ∧
    Tups [I, C, D] h' ys'.toList ((qs.take i).filter fun z => q z.1 z.2)) ?_ qs.length ⟨0, s.heap, s.toks, #[], m, by simp, by omega, rfl, k0, kI, kD, kC, .nil⟩
  rintro n s' ⟨i, h₁, tk₁, ys₁, m₁, rfl, hi, rfl, a0, aI, aD, aC, aT⟩
  by_cases hlt' : i < qs.length
  · refine W.item i _ _ _ (by omega) ⟨aI, stays_list a0 hl⟩ fun v h₂ tk₂ hv st₂ k₂ => ?_
    obtain ⟨⟨a, b⟩, hq, T, ta, tb, rfl, _, hT⟩ := tups_get hu (i := i) (v := v) (by rw [Array.getElem?_toList]; exact hv)
    have k2 : keepsIn S h₂ := fun c o e => k₂ c o (by simp; rintro rfl; rw [hIS] at e; cases e) (a0 c o e)
    have aC2 : h₂.Ns C m₁ := aC.at' fun o e => k₂ C o (by simp; exact Ne.symm hIC) e
    refine ⟨⟨_, st₂.1⟩, ?_⟩
    refine assign_Tuple_tuple hh (hT.keeps k2) rfl rfl fun h₃ he₃ => ?_
    have st3 : ∀ c o, h₂.get? c = some o → h₃.get? c = some o := fun c o e => he₃ c o (Nat.ne_of_lt (Heap.lt_size e)) e
    have aC3 : h₃.Ns C m₁ := aC2.keeps st3
    refine assignInOrder_cons (wpAny_assign_Name (wpAny_storeName_local hx0 (by rw [hC]; exact aC3) (fun h₄ hn₄ hs₄ => ?_) hp))
    rw [hC] at hn₄ hs₄
    refine assignInOrder_cons (wpAny_assign_Name (wpAny_storeName_local hx1 (by rw [hC]; exact hn₄) (fun h₅ hn₅ hs₅ => assignInOrder_nil ?_) hp))
    rw [hC] at hn₅ hs₅
    have up5 : ∀ c o, c ∉ [I, C] → h₁.get? c = some o → h₅.get? c = some o := fun c o hc e => hs₅.extBut c o (fun z => hc (by simp [z])) (hs₄.extBut c o (fun z => hc (by simp [z])) (st3 c o (k₂ c o (fun z => hc (by simp at z; simp [z])) e)))
    have k5 : keepsIn S h₅ := fun c o e => up5 c o (by simp; exact ⟨(by rintro rfl; rw [hIS] at e; cases e), (by rintro rfl; rw [hCS] at e; cases e)⟩) (a0 c o e)
    have m0 : (fun y => if y = x1 then some (Value.int b tb) else if y = x0 then some (.int a ta) else m₁ y) x0 = some (.int a ta) := by simp only [if_neg hne, if_true]
    refine wpAny_mono (test a ta _ _ b tb k5 hn₅ m0 (if_pos rfl)) (fun ok s₆ h₆ => ?_) fun _ _ z => z
    obtain ⟨rfl, h₆, tk₆, rfl, st₆⟩ := h₆
    have k6 : keepsIn S h₆ := fun c o e => st₆ c o (k5 c o e)
    have up : ∀ c o, c ∉ [I, C] → h₁.get? c = some o → h₆.get? c = some o := fun c o hc e => st₆ c o (up5 c o hc e)
    have tu : Tups [I, C, D] h₆ ys₁.toList ((qs.take i).filter fun z => q z.1 z.2) := aT.keep fun c o hc e => up c o (fun z => hc (by simp at z ⊢; rcases z with z | z <;> simp [z])) e
    have itI : h₆.IsListIter I l (i + 1) := ((((st₂.1.at fun o e => st3 _ o e).extBut hs₄.extBut hIC).extBut hs₅.extBut hIC)).at fun o e => st₆ _ o e
    have aD6 : h₆.PlainList D ys₁ := aD.at fun o e => up D o (by simp; exact ⟨Ne.symm hID, Ne.symm hCD⟩) e
    have aC6 := hn₅.keeps st₆
    have e1 : (qs.take (i + 1)).filter (fun z => q z.1 z.2) = (qs.take i).filter (fun z => q z.1 z.2) ++ if q a b then [(a, b)] else [] := by
      rw [take_snoc hq, List.filter_append, List.filter_cons, List.filter_nil]
    cases hqv : q a b with
    | false =>
      simp only [Bool.false_eq_true, if_false]
      rw [hqv] at e1
      refine ⟨qs.length - (i + 1), by omega, i + 1, h₆, tk₆, ys₁, _, rfl, by omega, rfl, k6, itI, aD6, aC6, ?_⟩
      rw [e1]; simpa using tu
    | true =>
      simp only [if_true]
      rw [hqv] at e1
      refine wpAny_mono (helt a ta _ _ b tb k6 aC6 m0 (if_pos rfl)) (fun y s₇ h₇ => ?_) fun _ _ z => z
      obtain ⟨⟨T', t1, u1, rfl, hTn, hTt⟩, h₇, tk₇, rfl, st₇⟩ := h₇
      have hys : ys₁.size ≤ sizeLine := by
        have e2 := aT.length
        rw [Array.length_toList] at e2
        have e3 : ((qs.take i).filter fun z => q z.1 z.2).length ≤ (qs.take i).length := List.length_filter_le _ _
        rw [List.length_take] at e3
        omega
      have hTD : T' ≠ D := by rintro rfl; obtain ⟨ep, e⟩ := aD6; dsimp only at hTn; rw [e] at hTn; cases hTn
      have hTX : T' ∉ [I, C, D] := by
        intro hm
        simp at hm
        rcases hm with rfl | rfl | rfl
        · obtain ⟨o, ho, _⟩ := itI; dsimp only at hTn; rw [ho] at hTn; cases hTn
        · obtain ⟨o, _, _, ho, _⟩ := aC6; dsimp only at hTn; rw [ho] at hTn; cases hTn
        · exact hTD rfl
      refine wpAny_list_append_plain (aD6.at fun o e => st₇ _ o e) (fun h₈ hl₈ hs₈ => ?_) hys
      have up8 : ∀ c o, c ≠ D → h₆.get? c = some o → h₈.get? c = some o := fun c o hc e => hs₈.extBut c o hc (st₇ c o e)
      refine ⟨qs.length - (i + 1), by omega, i + 1, h₈, tk₇, ys₁.push (.ref T'), _, rfl, by omega, rfl, fun c o e => up8 c o (by rintro rfl; rw [hDS] at e; cases e) (k6 c o e), itI.at fun o e => up8 I o hID e, hl₈, (aC6.keeps st₇).sameBut hs₈ hCD, ?_⟩
      rw [e1, Array.toList_push]
      simp only [if_true]
      obtain ⟨oT, hT1, hT2⟩ := hTt
      exact Paired.snoc (tu.keep fun c o hc e => up8 c o (fun z => hc (by simp [z])) e) ⟨T', t1, u1, rfl, hTX, oT, hs₈.extBut T' _ hTD hT1, hT2⟩
  · have hin : i = qs.length := by omega
    subst hin
    refine W.done _ _ _ (by rw [hlen]; exact ⟨aI, stays_list a0 hl⟩) fun h₂ tk₂ k₂ => ?_
    have up : ∀ c o, c ≠ I → h₁.get? c = some o → h₂.get? c = some o := fun c o hc e => k₂ c o (by simpa using hc) e
    refine hR h₂ tk₂ ys₁ m₁ (fun c o e => up c o (by rintro rfl; rw [hIS] at e; cases e) (a0 c o e)) (aD.at fun o e => up D o (Ne.symm hID) e) (aC.at' fun o e => up C o (Ne.symm hIC) e) ?_
    have := aT.keep (h' := h₂) fun c o hc e => up c o (fun z => hc (by simp [z])) e
    rw [List.take_of_length_le (Nat.le_refl _)] at this
    exact this
end
end Mine
namespace Mine
section
variable {prog : Program} {w : World} {A : Around} {E : Value → Shared → Prop} {s : Shared} {h₀ : Heap} {L fa : Addr} {m mg mb : Str → Option Value} {cd : Value} {Q : Flow → Shared → Prop} {p : Program} {loose : List Str} {news : List (Addr × Obj)}

/-- «y = [(x0, x1) for x0, x1 in i0 if ..]» -/
theorem assign_filter {env : Env} {elt i0 : Expr} {ifs : List Expr} {scope : Scope} {cl : List (Str × Addr)} {pos spos p0 p1 py tpos : Pos} {kk : Nat} {x0 x1 y : Str} {l : Addr} {us : Array Value} {qs : List (Int × Int)} (q : Int → Int → Bool)
    (hsw : swapsWith (.ListComp elt [⟨.Tuple [.Name x0 p0, .Name x1 p1] kk tpos, i0, ifs, 0⟩] scope pos) (some (.Name y py)) spos.line env = pure true)
    (hset0 : ∀ x, foldedSetIterable i0 env x = pure x) (hclos : closureFor scope env = pure cl) (hcell : ∀ z ∈ scope.names, z.2 ≠ .cell) (hkind : scope.kind = .function)
    (hnames : ∀ z ∈ scope.names, z.2 = .local → scope.names.lookup z.1 = some .local) (hx0 : scope.names.lookup x0 = some .local) (hx1 : scope.names.lookup x1 = some .local) (hne : x0 ≠ x1)
    (hy : env.kindOf y = some .local) (hp : (env.scope.kind == .class || (env.scope.kind == .module && env.locals != env.globals)) = false)
    (hn : s.heap.Ns L m) (hL : env.locals = L) (hh : A.handled = none)
    (first : ∀ Q' : Value → Shared → Prop, Q' (.ref l) s → wpAny (model prog w) A (eval i0 env) Q' E s)
    (hl : s.heap.IsList l us) (hu : Tups [] s.heap us.toList qs)
    (test : ∀ C, s.heap.objs.size ≤ C → ∀ a ta, ∀ (s₃ : Shared) m₃ b t, keepsIn s.heap s₃.heap → s₃.heap.Ns C m₃ → m₃ x0 = some (.int a ta) → m₃ x1 = some (.int b t) →
      wpAny (model prog w) A (forIn ifs true fun c r => if r = true then do let ok ← isTrue c (compEnvC scope cl C env) (eval c (compEnvC scope cl C env)); pure (ForInStep.yield ok) else pure (ForInStep.yield r)) (fun ok s₄ => ok = q a b ∧ Keeps s₃ s₄) (fun _ _ => False) s₃)
    (helt : ∀ C, s.heap.objs.size ≤ C → ∀ a ta, ∀ (s₃ : Shared) m₃ b t, keepsIn s.heap s₃.heap → s₃.heap.Ns C m₃ → m₃ x0 = some (.int a ta) → m₃ x1 = some (.int b t) →
      wpAny (model prog w) A (eval elt (compEnvC scope cl C env)) (fun y s₄ => (∃ T t u, y = .ref T ∧ s₃.heap.get? T = none ∧ IsTup s₄.heap T #[.int a t, .int b u]) ∧ Keeps s₃ s₄) (fun _ _ => False) s₃)
    (hsz : qs.length ≤ sizeLine)
    (hQ : ∀ h' tk D ys, s.heap.get? D = none → h'.IsList D ys → Tups [L] h' ys.toList (qs.filter fun z => q z.1 z.2) → h'.Ns L (fun z => if z = y then some (.ref D) else m z) → (∀ b o, b ≠ L → s.heap.get? b = some o → h'.get? b = some o) → Q .next { s with heap := h', toks := tk }) :
    wpAny (model prog w) A (exec (.Assign [.Name y py] (.ListComp elt [⟨.Tuple [.Name x0 p0, .Name x1 p1] kk tpos, i0, ifs, 0⟩] scope pos) spos) env) Q E s := by
  rw [exec_Assign_Name_used _ _ _ _ hsw]
  refine wpAny_bind (wpAny_standAt (wpAny_bind ?_))
  show wpAny _ A (do let _ ← comprehension (.ListComp elt [⟨.Tuple [.Name x0 p0, .Name x1 p1] kk tpos, i0, ifs, 0⟩] scope pos) scope env _ (newList []) false (eval i0 env) (some (assign (.Name y py) env))) _ _ s
  refine wpAny_bind (wpAny_mono (wpAny_comprehension_free (use := some (assign (.Name y py) env)) (cl := cl) (Q := fun _ s' => Q .next s') rfl hset0 hclos hkind hnames ?_) (fun _ s' hq => wpAny_pure (wpAny_pure hq)) fun _ _ z => z)
  refine first _ (wpAny_pyIter_list hl ?_)
  refine wpAny_newObj_type (wpAny_newFunctionEnv hcell (by intro y hy; simp at hy) (fun h₁ hns₁ hsb₁ => ?_) hkind)
  dsimp only at hns₁ hsb₁ ⊢
  generalize hH1 : s.heap.push { cls := .type "list_iterator", data := .fields #[.ref l, .int 0 0] } = H1 at hns₁ hsb₁ ⊢
  generalize hH2 : H1.push { cls := .type "list", dict := none, data := .seq ([] : List Value).toArray } = H2 at hns₁ hsb₁ ⊢
  have z1 : H1.objs.size = s.heap.objs.size + 1 := by rw [← hH1, Heap.size_push]
  have z2 : H2.objs.size = s.heap.objs.size + 1 + 1 := by rw [← hH2, Heap.size_push, z1]
  have old : ∀ b o, H2.get? b = some o → h₁.get? b = some o := fun b o e => hsb₁.extBut b o (Nat.ne_of_lt (Heap.lt_size e)) (Heap.get?_push_of_some _ e)
  have old0 : keepsIn s.heap h₁ := fun b o e => old b o (by rw [← hH2, ← hH1]; exact Heap.get?_push_of_some _ (Heap.get?_push_of_some _ e))
  have itI : h₁.IsListIter s.heap.objs.size l 0 := ⟨_, old _ _ (by rw [← hH2, ← hH1]; exact Heap.get?_push_of_some _ (Heap.get?_push_size _ rfl)), rfl, rfl⟩
  have accD : h₁.PlainList H1.objs.size #[] := ⟨_, old _ _ (by rw [← hH2]; exact Heap.get?_push_size _ rfl)⟩
  have fC : s.heap.get? H2.objs.size = none := fresh_size (by rw [z2]; exact Nat.le_succ_of_le (Nat.le_succ _))
  have fD : s.heap.get? H1.objs.size = none := fresh_size (by rw [z1]; exact Nat.le_succ _)
  have outer : ∀ s₃ : Shared, s₃ = { s with heap := h₁, toks := s.toks + ([] : List (Str × Value)).length } →
      codeAny (model prog w) A (.compLoop (.ListComp elt [⟨.Tuple [.Name x0 p0, .Name x1 p1] kk tpos, i0, ifs, 0⟩] scope pos) 0 (.ref s.heap.objs.size) (.ref H1.objs.size) (compEnvC scope cl H2.objs.size env))
        (compPost (model prog w) A E (some (assign (.Name y py) env)) (fun _ s' => Q .next s') (.ref H1.objs.size) H2.objs.size) s₃ := by
    rintro s₃ rfl
    refine pairs_filter (S := s.heap) q hh rfl hkind (lookup_relabel_local hx0) (lookup_relabel_local hx1) hne fC fD (fresh_size (Nat.le_refl _)) (by rw [z1, z2]; exact Nat.ne_of_gt (Nat.lt_succ_self _)) (by rw [z2]; exact Nat.ne_of_lt (Nat.lt_succ_of_lt (Nat.lt_succ_self _))) (by rw [z1]; exact Nat.ne_of_lt (Nat.lt_succ_self _)) hl hu
      (test _ (by rw [z2]; exact Nat.le_succ_of_le (Nat.le_succ _))) (helt _ (by rw [z2]; exact Nat.le_succ_of_le (Nat.le_succ _))) hsz old0 itI accD hns₁ ?_
    intro h' tk ys' m' k5 d5 n5 t5
    have hLC : env.locals ≠ H2.objs.size := by rw [hL]; rintro rfl; obtain ⟨o, _, _, ho, _⟩ := hn; rw [fC] at ho; cases ho
    have hLD : env.locals ≠ H1.objs.size := by rw [hL]; rintro rfl; obtain ⟨o, _, _, ho, _⟩ := hn; rw [fD] at ho; cases ho
    show wpAny _ A (assign (.Name y py) env (.ref H1.objs.size)) _ _ _
    refine wpAny_assign_Name (wpAny_storeName_local hy (by rw [hL]; exact hn.keeps k5) (fun h₆ hn₆ hs₆ => ?_) hp)
    rw [hL] at hn₆ hs₆ hLC hLD
    refine ⟨m', n5.sameBut hs₆ (Ne.symm hLC), fun h₇ hs₇ => ?_⟩
    have t6 : Tups [L] h₆ ys'.toList (qs.filter fun z => q z.1 z.2) := (t5.not_ns (hn.keeps k5)).keep fun c o hc e => hs₆.extBut c o (by simpa using hc) e
    have t7 : Tups [H2.objs.size] h₆ ys'.toList (qs.filter fun z => q z.1 z.2) := t6.not_ns (n5.sameBut hs₆ (Ne.symm hLC))
    have t8 := t7.keep (h' := h₇) fun c o hc e => hs₇.extBut c o (by simpa using hc) e
    exact hQ h₇ _ H1.objs.size ys' fD (((d5.isList).extBut hs₆.extBut (Ne.symm hLD)).extBut hs₇.extBut (by rw [z1, z2]; exact Nat.ne_of_lt (Nat.lt_succ_self _))) (t8.not_ns (hn₆.sameBut hs₇ hLC)) (hn₆.sameBut hs₇ hLC)
      fun b o hb e => hs₇.extBut b o (by rintro rfl; rw [fC] at e; cases e) (hs₆.extBut b o hb (k5 b o e))
  exact codeAny_compStart_list (outer _ rfl) (wpAny_pyIter_listiter itI (outer _ rfl))

theorem tups_nil {X : List Addr} {h : Heap} {vs : List Value} {qs : List (Int × Int)} (x : Tups X h vs qs) : Tups [] h vs qs :=
  paired_mono (fun _ _ ⟨T, t, u, e, _, r⟩ => ⟨T, t, u, e, by simp, r⟩) x

/-- if amount >= 0: cuts = [(a, b) for a, b in cuts if a + b <= amount] -/
theorem st_filter {o1 : Obj} {n : Int} {tn : Tok} {l : Addr} {us : Array Value} {qs : List (Int × Int)} (F : Fr h₀ L s.heap m) (N : News h₀ L s.heap news) (hc1 : (L + 1, o1) ∈ news) (hd1 : o1.data = .cell (some (.int n tn))) (hh : A.handled = none)
    (hm : m "cuts" = some (.ref l)) (hl : s.heap.IsList l us) (hu : Tups [L] s.heap us.toList qs) (hsz : qs.length ≤ sizeLine)
    (k : ∀ h' tk D ys m', Fr h₀ L h' m' → News h₀ L h' news → h'.IsList D ys → Tups [L] h' ys.toList (if 0 ≤ n then qs.filter fun z => decide (z.1 + z.2 ≤ n) else qs) → m' "cuts" = some (.ref D) → (∀ y, y ≠ ("cuts" : Str) → m' y = m y) → wpAny (model prog w) A (execs (lawB.drop 11) (lawE L fa cd)) Q E { s with heap := h', toks := tk }) :
    wpAny (model prog w) A (execs (lawB.drop 10) (lawE L fa cd)) Q E s := by
  refine wpAny_execs_cons (wpAny_If (wpAny_isTrue_Compare1 (nameX_C N rfl hc1 hd1 (wpAny_Constant_int (PyProof.Rows.ge_int (wpAny_truthy_bool ?_))))))
  by_cases h0 : n ≥ 0
  · rw [decide_eq_true h0]
    simp only [if_true]
    refine wpAny_execs_cons ?_
    refine assign_filter (cl := [("amount", L + 1)]) (fun a b => decide (a + b ≤ n)) rfl (fun _ => rfl) rfl (by decide) rfl (by decide) rfl rfl (by decide) rfl rfl F.ns rfl hh (fun Q' h => nameX_L F hm h) hl (tups_nil hu) ?_ ?_ hsz ?_
    · intro C hC a ta s₃ m₃ b t k₃ hn h0 h1
      refine wpAny_tests_one (wpAny_isTrue_Compare1 (wpAny_BinOp (wpAny_Name (wpAny_loadName_local rfl rfl hn h0 (wpAny_Name (wpAny_loadName_local rfl rfl hn h1 (PyProof.Rows.add_int ?_)))))))
      refine wpAny_Name (wpAny_loadName_cell rfl rfl rfl ⟨o1, k₃ _ _ (N _ hc1).1, hd1⟩ ?_)
      exact PyProof.Rows.le_int (wpAny_truthy_bool ⟨rfl, s₃.heap, _, rfl, fun _ _ e => e⟩)
    · intro C hC a ta s₃ m₃ b t k₃ hn h0 h1
      refine Tuple_ (args_cons (wpAny_Name (wpAny_loadName_local rfl rfl hn h0 (args_cons (wpAny_Name (wpAny_loadName_local rfl rfl hn h1 (args_nil ?_)))))))
      refine wpAny_newObj_type ?_
      exact ⟨⟨_, ta, t, rfl, fresh_size (Nat.le_refl _), _, Heap.get?_push_size _ rfl, rfl, _, rfl⟩, _, _, rfl, fun _ _ e => Heap.get?_push_of_some _ e⟩
    · intro h' tk D ys hD hlD hT hn' hk
      refine wpAny_execs_nil ?_
      refine k h' tk D ys _ ⟨hn', fun b o e => hk b o (frame_base F e) (F.keep b o e), F.above⟩ (fun q hq => ⟨hk _ _ (N q hq).2.1 (N q hq).1, (N q hq).2.1, (N q hq).2.2⟩) hlD ?_ rfl (fun y hy => if_neg hy)
      rw [if_pos h0]; exact hT
  · rw [decide_eq_false h0]
    simp only [Bool.false_eq_true, if_false]
    refine wpAny_execs_nil ?_
    refine k s.heap _ l us m F N hl ?_ hm (fun _ _ => rfl)
    rw [if_neg (by omega)]; exact hu
end
end Mine
/- max of a list of pairs of ints -/
namespace Mine

/-- the order of pairs -/
def pairGt (p q : Int × Int) : Bool := if p.1 = q.1 then decide (p.2 > q.2) else decide (p.1 > q.1)

section
variable {prog : Program} {w : World} {A : Around} {E : Value → Shared → Prop} {s : Shared}

theorem tuple_gt {a b : Addr} {p q : Int × Int} {t1 t2 u1 u2 : Tok} {Q : Value → Shared → Prop} (ha : IsTup s.heap a #[.int p.1 t1, .int p.2 t2]) (hb : IsTup s.heap b #[.int q.1 u1, .int q.2 u2]) (hu : A.units < cLine)
    (h : Q (.bool (pairGt p q)) s) : wpAny (model prog w) A (richCompare .Gt (.ref a) (.ref b)) Q E s := by
  have ta : s.TypeIs (.ref a) "tuple" := by obtain ⟨o, ho, hc, _⟩ := ha; exact ⟨o, ho, hc⟩
  have tb : s.TypeIs (.ref b) "tuple" := by obtain ⟨o, ho, hc, _⟩ := hb; exact ⟨o, ho, hc⟩
  refine wpAny_richCompare_same_room ta tb F.slot_tuple_gt (wpAny_call_entry F.slot_tuple_gt ta F.entry_tuple_gt ?_ (F.args_tuple_gt_2 _ _)) hu
  show wpAny _ _ (isInstance (.ref b) (.type "tuple") >>= _) _ _ s
  refine wpAny_bind (wpAny_isInstance tb isSubtype_tuple_tuple ?_)
  simp only [Bool.not_true, Bool.false_eq_true, if_false]
  refine wpAny_bind (tupleItemsOf_ ha ?_)
  refine wpAny_bind (tupleItemsOf_ hb ?_)
  refine wpAny_bind ?_
  show wpAny _ _ (forIn [((Value.int p.1 t1), (Value.int q.1 u1)), ((Value.int p.2 t2), (Value.int q.2 u2))] _ _) _ _ s
  rw [List.forIn_cons]
  refine wpAny_bind (wpAny_bind (wpAny_eqBool_int ?_))
  unfold pairGt at h
  by_cases h1 : p.1 = q.1
  · rw [if_pos h1] at h
    have e1 : (p.1 == q.1) = true := by simpa using h1
    rw [e1]
    simp only [Bool.not_true, Bool.false_eq_true, if_false]
    refine wpAny_pure ?_
    show wpAny _ _ (forIn [((Value.int p.2 t2), (Value.int q.2 u2))] _ _) _ _ s
    rw [List.forIn_cons]
    refine wpAny_bind (wpAny_bind (wpAny_eqBool_int ?_))
    by_cases h2 : p.2 = q.2
    · have e2 : (p.2 == q.2) = true := by simpa using h2
      rw [e2]
      simp only [Bool.not_true, Bool.false_eq_true, if_false]
      refine wpAny_pure ?_
      show wpAny _ _ (forIn [] _ _) _ _ s
      rw [List.forIn_nil]
      refine wpAny_pure ?_
      refine wpAny_pure ⟨_, rfl, (fun e => nomatch e), ?_⟩
      rw [decide_eq_false (by omega)] at h
      exact h
    · have e2 : (p.2 == q.2) = false := by simpa using h2
      rw [e2]
      simp only [Bool.not_false, if_true]
      refine wpAny_bind (wpAny_rule (wpAny_bind (PyProof.Rows.gt_int ?_)))
      exact wpAny_bind (wpAny_pure (wpAny_pure (wpAny_pure (wpAny_pure ⟨_, rfl, (fun e => nomatch e), h⟩))))
  · rw [if_neg h1] at h
    have e1 : (p.1 == q.1) = false := by simpa using h1
    rw [e1]
    simp only [Bool.not_false, if_true]
    refine wpAny_bind (wpAny_rule (wpAny_bind (PyProof.Rows.gt_int ?_)))
    exact wpAny_bind (wpAny_pure (wpAny_pure (wpAny_pure (wpAny_pure ⟨_, rfl, (fun e => nomatch e), h⟩))))

/-- the greater of two, the elder one if they are alike -/
def stp (m z : Int × Int) : Int × Int := if pairGt z m then z else m

variable {R : Result → Shared → Prop}
theorem max_go {S : Heap} {I l X : Addr} {us : Array Value} {qs : List (Int × Int)} (hh : A.handled = none) (hroom : A.units + 1 < cLine) (hIS : S.get? I = none) (hXS : S.get? X = none) (hIX : I ≠ X) (hl : S.IsList l us) (hu : Tups [] S us.toList qs) :
    ∀ (k i : Nat) (s : Shared) (vb : Value) (mb : Int × Int) (c : Nat), k = qs.length - i → i ≤ qs.length → keepsIn S s.heap → s.heap.IsListIter I l i → TupAt [] S vb mb →
      s.heap.get? X = some { cls := .type "list", dict := none, data := .seq #[vb, vb] c, slots := #[] } →
      (∀ v h' tk, TupAt [] S v ((qs.drop i).foldl stp mb) → keepsIn S h' → R (.ok (.ret v)) { s with heap := h', toks := tk }) →
      codeAny (model prog w) A (.builtin "max.loop" ⟨[.ref I, .none, .ref X], []⟩) R s := by
  have hlI : l ≠ I := by rintro rfl; obtain ⟨o, ho, _⟩ := hl; rw [hIS] at ho; cases ho
  have W := Walks.list (prog := prog) (w := w) (A := A.in1) hh I l hlI us
  have hlen : us.size = qs.length := by rw [← Array.length_toList]; exact hu.length
  have hname : (toString "max" ++ toString ".loop" : String) = "max.loop" := by decide
  have keepX : ∀ {h h' : Heap}, keepsIn S h → (∀ b o, b ≠ X → h.get? b = some o → h'.get? b = some o) → keepsIn S h' := fun k1 k2 b o e => k2 b o (by rintro rfl; rw [hXS] at e; cases e) (k1 b o e)
  have keepI : ∀ {h h' : Heap}, keepsIn S h → (∀ b o, b ∉ [I] → h.get? b = some o → h'.get? b = some o) → keepsIn S h' := fun k1 k2 b o e => k2 b o (by simp; rintro rfl; rw [hIS] at e; cases e) (k1 b o e)
  intro k
  induction k with
  | zero =>
    intro i s vb mb c hk hi k0 hit hvb hX hR
    have hin : i = qs.length := by omega
    refine codeAny_builtin F.entry_max_loop ?_
    rw [Around.under_plainId F.plain_max_loop _]
    show wpAny _ A.in1 (seqItems? (.ref X) >>= _) _ _ s
    refine wpAny_bind (wpAny_seqItems hX rfl ?_)
    show wpAny _ A.in1 (tryCatch (pyNext (.ref I)) _ >>= _) _ _ s
    refine wpAny_bind (wpAny_tryCatch (W.done s _ _ (by rw [hlen, ← hin]; exact ⟨hit, stays_list k0 hl⟩) fun h₁ tk₁ k₁ => ?_))
    have hX₁ := k₁ X _ (by simp; exact Ne.symm hIX) hX
    show wpAny _ A.in1 (updateSeq X (fun _ => #[]) >>= _) _ _ _
    refine wpAny_bind (wpAny_updateSeq hX₁ rfl (wpAny_bind (wpAny_letGo (wpAny_pure ?_))))
    refine hR vb _ tk₁ (by rw [hin, List.drop_of_length_le (Nat.le_refl _)]; exact hvb) (keepX (keepI k0 k₁) fun b o hb e => (Heap.get?_update_other _ _ (Ne.symm hb)).trans e)
  | succ k ih =>
    intro i s vb mb c hk hi k0 hit hvb hX hR
    have hlt : i < qs.length := by omega
    refine codeAny_builtin F.entry_max_loop ?_
    rw [Around.under_plainId F.plain_max_loop _]
    show wpAny _ A.in1 (seqItems? (.ref X) >>= _) _ _ s
    refine wpAny_bind (wpAny_seqItems hX rfl ?_)
    show wpAny _ A.in1 (tryCatch (pyNext (.ref I)) _ >>= _) _ _ s
    refine wpAny_bind (wpAny_tryCatch (W.item i s _ _ (by omega) ⟨hit, stays_list k0 hl⟩ fun v h₁ tk₁ hv st₁ k₁ => ?_))
    obtain ⟨z, hz, hvz⟩ := tups_get hu (i := i) (v := v) (by rw [Array.getElem?_toList]; exact hv)
    have kk : keepsIn S h₁ := keepI k0 k₁
    have hX₁ := k₁ X _ (by simp; exact Ne.symm hIX) hX
    have hdrop : qs.drop i = z :: qs.drop (i + 1) := by
      rw [List.drop_eq_getElem_cons hlt]
      congr 1
      rw [List.getElem?_eq_getElem hlt] at hz
      exact Option.some.inj hz
    rw [hdrop, List.foldl_cons] at hR
    obtain ⟨T1, a1, a2, rfl, _, hT1⟩ := id hvz
    obtain ⟨T2, b1, b2, rfl, _, hT2⟩ := id hvb
    show wpAny _ A.in1 (tryCatch (holding [.ref T1, .ref T1] (richCompare .Gt (.ref T1) (.ref T2) >>= _)) _ >>= _) _ _ _
    refine wpAny_bind (wpAny_tryCatch (wpAny_holding (wpAny_bind (tuple_gt (p := z) (q := mb) (hT1.keeps kk) (hT2.keeps kk) hroom ?_))))
    refine wpAny_bind (wpAny_holding (wpAny_truthy_bool ?_))
    refine wpAny_bind (wpAny_letGo (wpAny_pure ?_))
    cases hb : pairGt z mb with
    | true =>
      have e : stp mb z = z := by unfold stp; rw [hb]; rfl
      rw [e] at hR
      simp only [if_true]
      refine wpAny_bind (wpAny_updateSeq hX₁ rfl (wpAny_bind (wpAny_letGo ?_)))
      rw [hname]
      refine wpAny_pure ⟨plainId_quiet F.plain_max_loop _, ih (i + 1) _ (.ref T1) z _ (by omega) hlt (keepX kk fun b o hb e => (Heap.get?_update_other _ _ (Ne.symm hb)).trans e) (st₁.1.at fun o e => (Heap.get?_update_other _ _ (Ne.symm hIX)).trans e) hvz (Heap.get?_update_self _ hX₁ rfl) fun v' h' tk' h1 h2 => hR v' h' tk' h1 h2⟩
    | false =>
      have e : stp mb z = mb := by unfold stp; rw [hb]; rfl
      rw [e] at hR
      simp only [Bool.false_eq_true, if_false]
      refine wpAny_bind (wpAny_letGo ?_)
      rw [hname]
      exact wpAny_pure ⟨plainId_quiet F.plain_max_loop _, ih (i + 1) _ (.ref T2) mb c (by omega) hlt kk st₁.1 hvb hX₁ fun v' h' tk' h1 h2 => hR v' h' tk' h1 h2⟩

/-- max(l), l a list of pairs that is not empty -/
theorem max_pairs {l : Addr} {us : Array Value} {q0 : Int × Int} {qs : List (Int × Int)} {Q : Value → Shared → Prop} (hh : A.handled = none) (hroom : A.units + 2 < cLine) (hl : s.heap.IsList l us) (hu : Tups [] s.heap us.toList (q0 :: qs))
    (h : ∀ v h' tk, TupAt [] s.heap v (qs.foldl stp q0) → keepsIn s.heap h' → Q v { s with heap := h', toks := tk }) :
    wpAny (model prog w) A (call (.builtin "max") [.ref l]) Q E s := by
  have hname : (toString "max" ++ toString ".loop" : String) = "max.loop" := by decide
  refine call_function_tree F.kind_max F.plain_max F.entry_max (F.args_max1 _) ?_
  show wpAny _ A.in1 (Builtin.Builtins.bindParams "max" ["key", "default"] 0 ⟨[], []⟩ >>= _) _ _ s
  refine wpAny_bind (wpAny_of_eq (show Builtin.Builtins.bindParams "max" ["key", "default"] 0 ⟨[], []⟩ = pure [none, none] from rfl) ?_)
  refine wpAny_bind (wpAny_pure ?_)
  refine wpAny_bind (wpAny_pyIter_list hl ?_)
  refine wpAny_bind (wpAny_newObj_type ?_)
  rw [hname]
  generalize hH1 : s.heap.push { cls := .type "list_iterator", data := .fields #[.ref l, .int 0 0] } = H1
  have z1 : H1.objs.size = s.heap.objs.size + 1 := by rw [← hH1, Heap.size_push]
  have hIS : s.heap.get? s.heap.objs.size = none := fresh_size (Nat.le_refl _)
  have hXS : s.heap.get? H1.objs.size = none := fresh_size (by rw [z1]; exact Nat.le_succ _)
  have hIX : s.heap.objs.size ≠ H1.objs.size := by rw [z1]; exact Nat.ne_of_lt (Nat.lt_succ_self _)
  refine wpAny_pure ⟨plainId_quiet F.plain_max_loop _, ?_⟩
  have hlI : l ≠ s.heap.objs.size := by rintro rfl; obtain ⟨o, ho, _⟩ := hl; rw [hIS] at ho; cases ho
  have W := Walks.list (prog := prog) (w := w) (A := A.in1) hh s.heap.objs.size l hlI us
  have hlen : us.size = qs.length + 1 := by rw [← Array.length_toList]; exact hu.length
  have kp : keepsIn s.heap (H1.push { cls := .type "list", dict := none, data := .seq ([] : List Value).toArray }) := fun b o e => Heap.get?_push_of_some _ (by rw [← hH1]; exact Heap.get?_push_of_some _ e)
  have itI : (H1.push { cls := .type "list", dict := none, data := .seq ([] : List Value).toArray }).IsListIter s.heap.objs.size l 0 := ⟨_, Heap.get?_push_of_some _ (by rw [← hH1]; exact Heap.get?_push_size _ rfl), rfl, rfl⟩
  have hX : (H1.push { cls := .type "list", dict := none, data := .seq ([] : List Value).toArray }).get? H1.objs.size = some { cls := .type "list", dict := none, data := .seq #[] 0, slots := #[] } := Heap.get?_push_size _ rfl
  refine codeAny_builtin F.entry_max_loop ?_
  rw [Around.under_plainId F.plain_max_loop _]
  show wpAny _ A.in1 (seqItems? (.ref H1.objs.size) >>= _) _ _ _
  refine wpAny_bind (wpAny_seqItems hX rfl ?_)
  show wpAny _ A.in1 (tryCatch (pyNext (.ref s.heap.objs.size)) _ >>= _) _ _ _
  refine wpAny_bind (wpAny_tryCatch (W.item 0 _ _ _ (by omega) ⟨itI, stays_list kp hl⟩ fun v h₁ tk₁ hv st₁ k₁ => ?_))
  obtain ⟨z, hz, hvz⟩ := tups_get hu (i := 0) (v := v) (by rw [Array.getElem?_toList]; exact hv)
  obtain rfl : q0 = z := by simpa using hz
  have hX₁ := k₁ H1.objs.size _ (by simp; exact Ne.symm hIX) hX
  have kk : keepsIn s.heap h₁ := fun b o e => k₁ b o (by simp; rintro rfl; rw [hIS] at e; cases e) (kp b o e)
  show wpAny _ A.in1 (updateSeq H1.objs.size (fun _ => #[v, v]) >>= _) _ _ _
  refine wpAny_bind (wpAny_updateSeq hX₁ rfl ?_)
  rw [hname]
  refine wpAny_pure ⟨plainId_quiet F.plain_max_loop _, max_go (S := s.heap) hh (by omega) hIS hXS hIX hl hu _ 1 _ v q0 _ rfl (by simp) ?_ ?_ hvz (Heap.get?_update_self _ hX₁ rfl) fun v' h' tk' h1 h2 => ?_⟩
  · exact fun b o e => (Heap.get?_update_other _ _ (by rintro rfl; rw [hXS] at e; cases e)).trans (kk b o e)
  · exact st₁.1.at fun o e => (Heap.get?_update_other _ _ (Ne.symm hIX)).trans e
  · exact h v' h' tk' h1 h2
end
end Mine
namespace Mine

theorem stp_mem : ∀ (qs : List (Int × Int)) (q : Int × Int), qs.foldl stp q ∈ q :: qs
  | [], q => .head _
  | z :: qs, q => by
    rw [List.foldl_cons]
    have h := stp_mem qs (stp q z)
    unfold stp at h ⊢
    split at h
    · rename_i hg
      rw [if_pos hg]
      exact .tail _ h
    · rename_i hg
      rw [if_neg hg]
      rcases List.mem_cons.mp h with h | h
      · rw [h]; exact .head _
      · exact .tail _ (.tail _ h)
theorem pairGt_trans {p q r : Int × Int} (h : pairGt p q = false) (h' : pairGt q r = false) : pairGt p r = false := by
  unfold pairGt at *
  split at h <;> split at h' <;> split <;> simp only [decide_eq_false_iff_not] at * <;> omega
theorem pairGt_self (p : Int × Int) : pairGt p p = false := by
  unfold pairGt; rw [if_pos rfl]; simp
theorem pairGt_asymm {p q : Int × Int} (h : pairGt p q = true) : pairGt q p = false := by
  unfold pairGt at *
  split at h <;> split <;> simp only [decide_eq_false_iff_not, decide_eq_true_eq] at * <;> omega
theorem pairGt_eq {p q : Int × Int} (h : pairGt p q = false) (h' : pairGt q p = false) : p = q := by
  obtain ⟨a, b⟩ := p
  obtain ⟨c, d⟩ := q
  unfold pairGt at *
  simp only [Prod.mk.injEq]
  simp only at h h'
  split at h <;> split at h' <;> simp only [decide_eq_false_iff_not] at * <;> omega
theorem stp_top : ∀ (qs : List (Int × Int)) (q : Int × Int), ∀ z ∈ q :: qs, pairGt z (qs.foldl stp q) = false
  | [], q, z, hz => by
    obtain rfl : z = q := by simpa using hz
    exact pairGt_self z
  | y :: qs, q, z, hz => by
    rw [List.foldl_cons]
    have top := stp_top qs (stp q y)
    have h0 := top _ (.head _)
    have hs : pairGt q (stp q y) = false ∧ pairGt y (stp q y) = false := by
      unfold stp
      split
      · rename_i hg; exact ⟨pairGt_asymm hg, pairGt_self _⟩
      · rename_i hg; exact ⟨pairGt_self _, by simpa using hg⟩
    rcases List.mem_cons.mp hz with rfl | hz
    · exact pairGt_trans hs.1 h0
    · rcases List.mem_cons.mp hz with rfl | hz
      · exact pairGt_trans hs.2 h0
      · exact top z (.tail _ hz)
theorem stp_is {qs : List (Int × Int)} {q t : Int × Int} (hm : t ∈ q :: qs) (ht : ∀ z ∈ q :: qs, pairGt z t = false) : qs.foldl stp q = t :=
  pairGt_eq (ht _ (stp_mem qs q)) (stp_top qs q t hm)

theorem mem_upto {k : Nat} {a : Int} : a ∈ upto k ↔ 0 ≤ a ∧ a ≤ k := by
  unfold upto
  simp only [List.mem_map, List.mem_range]
  constructor
  · rintro ⟨i, hi, rfl⟩; omega
  · intro h; exact ⟨a.toNat, by omega, by omega⟩
theorem mem_pairs {q : Int → Int → Bool} {as bs : List Int} {z : Int × Int} : z ∈ pairsOf q as bs ↔ z.1 ∈ as ∧ z.2 ∈ bs ∧ q z.1 z.2 = true := by
  unfold pairsOf
  simp only [List.mem_flatMap, List.mem_map, List.mem_filter]
  constructor
  · rintro ⟨a, ha, b, ⟨hb, hq⟩, rfl⟩; exact ⟨ha, hb, hq⟩
  · rintro ⟨ha, hb, hq⟩; exact ⟨z.1, ha, z.2, ⟨hb, hq⟩, rfl⟩

/-- all cuts -/
def cutsOf (l : List Nat) (n : Int) : List (Int × Int) :=
  if 0 ≤ n then (pairsOf (fun a b => decide (a + b ≤ l.length)) (upto (lead l)) (upto (trail l))).filter fun z => decide (z.1 + z.2 ≤ n)
  else pairsOf (fun a b => decide (a + b ≤ l.length)) (upto (lead l)) (upto (trail l))
theorem mem_cuts {l : List Nat} {n : Int} {z : Int × Int} : z ∈ cutsOf l n ↔ (0 ≤ z.1 ∧ z.1 ≤ lead l ∧ 0 ≤ z.2 ∧ z.2 ≤ trail l ∧ z.1 + z.2 ≤ l.length ∧ (0 ≤ n → z.1 + z.2 ≤ n)) := by
  unfold cutsOf
  split
  · rw [List.mem_filter, mem_pairs, mem_upto, mem_upto]
    simp only [decide_eq_true_eq]
    omega
  · rw [mem_pairs, mem_upto, mem_upto]
    simp only [decide_eq_true_eq]
    omega
theorem trail_all {l : List Nat} (h : lead l = l.length) : trail l = l.length := by
  have h1 : l = List.replicate l.length 32 := by
    have := (take_blank (l := l) (Nat.le_refl _)).mpr (by omega)
    rw [List.take_of_length_le (Nat.le_refl _)] at this
    exact this
  have h2 := (drop_blank (l := l) (b := l.length) (Nat.le_refl _)).mp (by rw [Nat.sub_self, List.drop_zero]; exact h1)
  have := trail_le l
  omega
/-- the cut that takes most ahead, and then most behind, is what _strip_padding takes -/
theorem cut_best {l : List Nat} {n : Int} {a e : Nat} (h : stripB l n = some (a, e)) : ∃ q0 qs b, cutsOf l n = q0 :: qs ∧ e = l.length - b ∧ b ≤ l.length ∧ qs.foldl stp q0 = ((a : Int), (b : Int)) := by
  have hl := lead_le l
  have ht := trail_le l
  have key : ∀ (b : Nat), ((a : Int), (b : Int)) ∈ cutsOf l n → (∀ z ∈ cutsOf l n, pairGt z ((a : Int), (b : Int)) = false) → ∃ q0 qs, cutsOf l n = q0 :: qs ∧ qs.foldl stp q0 = ((a : Int), (b : Int)) := by
    intro b hm hb
    cases hc : cutsOf l n with
    | nil => rw [hc] at hm; cases hm
    | cons q0 qs => rw [hc] at hm hb; exact ⟨q0, qs, rfl, stp_is hm hb⟩
  unfold stripB at h
  split at h
  · rename_i hall
    have hta := trail_all hall
    split at h
    · rename_i hn
      simp only [Option.some.injEq, Prod.mk.injEq] at h
      obtain ⟨h1, h2⟩ := h
      obtain ⟨q0, qs, e1, e2⟩ := key 0 (by rw [mem_cuts]; simp only; omega) (by
        intro z hz
        rw [mem_cuts] at hz
        unfold pairGt
        simp only
        split <;> simp only [decide_eq_false_iff_not] <;> omega)
      exact ⟨q0, qs, 0, e1, by omega, by omega, e2⟩
    · cases h
  · rename_i hall
    have hlt := lead_trail (l := l) (by omega)
    simp only [Option.some.injEq, Prod.mk.injEq] at h
    obtain ⟨h1, h2⟩ := h
    rw [h1] at h2
    refine Exists.elim (key (if n < 0 then trail l else min (trail l) (n.toNat - a)) ?_ ?_) fun q0 hq => Exists.elim hq fun qs hq => ⟨q0, qs, _, hq.1, h2.symm, ?_, hq.2⟩
    · rw [mem_cuts]
      simp only
      split at h1 <;> split <;> omega
    · intro z hz
      rw [mem_cuts] at hz
      unfold pairGt
      simp only
      split at h1 <;> split <;> simp only [decide_eq_false_iff_not] <;> omega
    · split <;> omega
end Mine
namespace Mine
section
variable {prog : Program} {w : World} {A : Around} {E : Value → Shared → Prop} {s : Shared} {h₀ : Heap} {L fa : Addr} {m mg mb : Str → Option Value} {cd : Value} {Q : Flow → Shared → Prop} {p : Program} {loose : List Str} {news : List (Addr × Obj)}

/-- a, b = max(cuts); return told == text[a:len(text) - b] -/
theorem st_end {o2 : Obj} {x : Str} {tx tt : Tok} {l : Addr} {us : Array Value} {n : Int} {a e : Nat} (F : Fr h₀ L s.heap m) (N : News h₀ L s.heap news) (X : (Mine.hd01.heap_39 w.params).In h₀) (T : TopRead p loose mg mb h₀)
    (hc2 : (L + 1 + 1, o2) ∈ news) (hd2 : o2.data = .cell (some (.str x tx))) (hx : x.length ≤ 300) (hh : A.handled = none) (hroom : A.units + 2 < cLine)
    (hm : m "cuts" = some (.ref l)) (hl : s.heap.IsList l us) (hu : Tups [L] s.heap us.toList (cutsOf x.cps.toList n)) (ht : m "told" = some (.str (Txt.slice x (some (a : Int)) (some (e : Int))) tt)) (hb : stripB x.cps.toList n = some (a, e))
    (k : ∀ h' tk m', Fr h₀ L h' m' → Q (.ret (.bool true)) { s with heap := h', toks := tk }) :
    wpAny (model prog w) A (execs (lawB.drop 11) (lawE L fa cd)) Q E s := by
  have hlen : x.cps.toList.length = x.length := by simp [Str.length]
  have hsl : sizeLine = 16777216 := rfl
  obtain ⟨q0, qs, b, e1, e2, e3, e4⟩ := cut_best hb
  rw [e1] at hu
  refine wpAny_execs_cons (Assign_Tuple (Call_ (nameX_B F X T rfl boot_max (by decide) ?_)))
  refine callWith_builtin1 (args_cons (nameX_L F hm (args_nil ?_)))
  refine max_pairs hh hroom hl (tups_nil hu) (fun v h₁ tk₁ hv st₁ => ?_)
  rw [e4] at hv
  obtain ⟨T1, t1, t2, rfl, _, hT⟩ := hv
  have F₁ := fr_stays F st₁
  have N₁ := news_stays N st₁
  refine assign_Tuple_tuple hh (hT.keeps st₁) rfl rfl fun h₂ he₂ => ?_
  have st₂ : ∀ c o, h₁.get? c = some o → h₂.get? c = some o := fun c o e => he₂ c o (Nat.ne_of_lt (Heap.lt_size e)) e
  refine assignInOrder_cons (assign_Name (storeX_L (fr_stays F₁ st₂) (news_stays N₁ st₂) (fun h₃ F₃ N₃ => ?_)))
  refine assignInOrder_cons (assign_Name (storeX_L F₃ N₃ (fun h₄ F₄ N₄ => assignInOrder_nil ?_)))
  refine wpAny_execs_cons (wpAny_Return_some (wpAny_Compare1 (nameX_L F₄ ((if_neg (by decide)).trans ((if_neg (by decide)).trans ht)) ?_)))
  refine Subscript_ (nameX_C N₄ rfl hc2 hd2 ?_)
  refine wpAny_Slice (evalPart_some_step (nameX_L F₄ rfl ?_))
  refine evalPart_some_step (wpAny_BinOp (Call_ (nameX_B F₄ X T rfl boot_len (by decide) ?_)))
  refine callWith_builtin1 (args_cons (nameX_C N₄ rfl hc2 hd2 (args_nil ?_)))
  refine PyProof.Rows.len_str (by omega) (nameX_L F₄ rfl (PyProof.Rows.sub_int (evalPart_none_step ?_)))
  refine slice_strN_ss F₄ N₄ (fun h₅ t₅ k₅ F₅ N₅ => PyProof.Rows.eq_str ?_) (hsz := by omega)
  have e5 : (x.length : Int) - (b : Int) = (e : Int) := by rw [e2, hlen] at *; omega
  have e6 : (Txt.slice x (some (a : Int)) (some (e : Int)) == Txt.slice x (some (a : Int)) (some ((x.length : Int) - (b : Int)))) = true := by rw [e5]; exact beq_self_eq_true _
  rw [e6]
  exact k h₅ _ _ F₅
end
end Mine
namespace Mine
theorem upto_len (k : Nat) : (upto k).length = k + 1 := by simp [upto]

section
variable {prog : Program} {w : World} {E : Value → Shared → Prop} {s : Shared} {h₀ : Heap} {L fa : Addr} {m mg mb : Str → Option Value} {cd : Value} {Q : Flow → Shared → Prop} {p : Program} {loose : List Str} {mean : ExcName → Option Value}

theorem law_body {o1 o2 o3 : Obj} {l : Addr} {vs : List Value} {ns : List Int} (B : Below callerA h₀ [] h₀) (F : Fr h₀ L s.heap m) (N : News h₀ L s.heap (cells L o1 o2 o3)) (X : (Mine.hd01.heap_39 w.params).In h₀) (T : Top p loose mean mg mb h₀)
    (hd1 : ∃ v, o1.data = .cell v) (hd2 : ∃ v, o2.data = .cell v) (hd3 : ∃ v, o3.data = .cell v)
    (hm : m "script" = some (.ref l)) (hl : h₀.IsList l vs.toArray) (hI : IntsAre vs ns) (hlen : ns.length ≤ 63)
    (k : ∀ h' tk m', Fr h₀ L h' m' → Q (.ret (.bool true)) { s with heap := h', toks := tk })
    (hE : ∀ e, PassesOwnAt (model prog w) ((callerA.deeper (lawE L fa cd)).mark (some (.ref e))) (callerA.deeper (lawE L fa cd)) (lawE L fa cd) E) :
    wpAny (model prog w) (callerA.deeper (lawE L fa cd)) (execs lawB (lawE L fa cd)) Q E s := by
  have hu : (callerA.deeper (lawE L fa cd)).units + 64 < cLine := Nat.le_of_ble_eq_true rfl
  have hu2 : (callerA.deeper (lawE L fa cd)).units + 2 < cLine := by omega
  have hsl : sizeLine = 16777216 := rfl
  refine st1 F N X (topRead_of T) hm hl hI hlen rfl ?_
  intro h₁ tk₁ a b c d t1 t2 t3 t4 m₁ F₁ N₁ g1 g2 g3 g4 g5
  -- amount = first % 41 - 6
  refine wpAny_execs_cons (wpAny_Assign_Name (wpAny_BinOp (wpAny_BinOp (nameX_L F₁ g1 (wpAny_Constant_int (mod_int' (by decide) (wpAny_Constant_int (PyProof.Rows.sub_int ?_))))))))
  obtain ⟨v1, hd1⟩ := hd1
  refine storeX_C (c := L + 1) F₁ N₁ rfl (.tail (by k_ne) (.tail (by k_ne) (.head (by k_all)))) hd1 (fun h₂ o1' F₂ N₂ hd1' => ?_)
  -- middle = ''
  refine wpAny_execs_cons (wpAny_Assign_Name (Constant_str (storeX_L F₂ N₂ (fun h₃ F₃ N₃ => ?_))))
  refine st_mid F₃ N₃ g5 hl hI hlen rfl hu g4 rfl ?_
  intro h₄ tk₄ y ty m₄ F₄ N₄ e1 e2 e3 e4
  refine st_text F₄ N₄ hd2 (e3.trans g2) (e4.trans g3) e1 e2 ?_
  intro h₅ tk₅ x tx o2' F₅ N₅ hd2' hx
  have hlead : lead x.cps.toList ≤ 300 := Nat.le_trans (lead_le _) (by simpa [Str.length] using hx)
  have htrail : trail x.cps.toList ≤ 300 := Nat.le_trans (trail_le _) (by simpa [Str.length] using hx)
  have hxl : x.cps.toList.length = x.length := by simp [Str.length]
  refine st_try B F₅ N₅ X T hd1' hd2' hx ?_ ?_ hE
  · intro h₆ tk₆ ca ce t' m₆ hb F₆ N₆ ht
    refine st_if F₆ N₆ X (topRead_of T) (.tail _ (.tail _ (.head _))) (.tail _ (.head _)) hd1' hd2' hx ?_ ?_
    · intro h1 h2
      exfalso
      unfold stripB at hb
      rw [hxl, if_pos h1, if_neg h2] at hb
      cases hb
    · intro _ tk
      refine st_heads F₆ N₆ X (topRead_of T) (.tail _ (.head _)) hd2' hx rfl ?_
      intro h₇ tk₇ D₁ hs m₇ ep F₇ N₇ hI7 e5 e6
      refine st_tails F₇ N₇ X (topRead_of T) hd2' hd3 hx rfl ?_
      intro h₈ tk₈ D₂ ts o3' ep' F₈ N₈ hI8 hd3'
      refine st_cuts F₈ N₈ X (topRead_of T) (.tail _ (.tail _ (.tail _ (.head _)))) hd2' (.tail _ (.tail _ (.head _))) hd3' hx rfl e5 (News.isList N₈ (.tail _ (.head _))) hI7 (News.isList N₈ (.head _)) hI8 (by rw [upto_len]; omega) (by rw [upto_len]; omega) ?_
      intro h₉ tk₉ D₃ ys m₉ F₉ N₉ hl9 hT9 e7 e8
      refine st_filter F₉ N₉ (.tail _ (.tail _ (.tail _ (.tail _ (.head _))))) hd1' rfl e7 hl9 hT9 ?_ ?_
      · have h1 := pairsOf_len (fun a b => decide (a + b ≤ (x.length : Int))) (upto (trail x.cps.toList)) (upto (lead x.cps.toList))
        rw [upto_len, upto_len] at h1
        have h2 : (lead x.cps.toList + 1) * (trail x.cps.toList + 1) ≤ 301 * 301 := Nat.mul_le_mul (by omega) (by omega)
        omega
      · intro h₁₀ tk₁₀ D₄ ys' m₁₀ F₁₀ N₁₀ hl10 hT10 e9 e10
        have hT11 : Tups [L] h₁₀ ys'.toList (cutsOf x.cps.toList (a.fmod 41 - 6)) := by
          unfold cutsOf
          rw [hxl]
          exact hT10
        have n1 : ("told" : Str) ≠ ("cuts" : Str) := by decide
        have n2 : ("told" : Str) ≠ ("heads" : Str) := by decide
        have ht' := ((e10 _ n1).trans (e8 _ n1)).trans ((e6 _ n2).trans ht)
        refine st_end (n := a.fmod 41 - 6) F₁₀ N₁₀ X (topRead_of T) (.tail _ (.tail _ (.tail _ (.head _)))) hd2' hx rfl hu2 e9 hl10 hT11 ht' hb ?_
        intro h' tk' m' F'
        exact k h' tk' m' F'
  · intro h₆ tk₆ l' u' m₆ hb F₆ N₆ ht
    refine st_if F₆ N₆ X (topRead_of T) (.tail _ (.tail _ (.tail _ (.head _)))) (.tail _ (.tail _ (.head _))) hd1' hd2' hx ?_ ?_
    · intro _ _ tk
      refine st_ret_list F₆ N₆ hu ht ?_
      intro h' tk' F'
      exact k h' tk' m₆ F'
    · intro h1
      exfalso
      unfold stripB at hb
      rw [hxl] at hb
      split at hb
      · rename_i h2
        split at hb
        · cases hb
        · rename_i h3; exact h1 ⟨h2, h3⟩
      · cases hb
end
end Mine

theorem PySem.Challenge.cw_dm0204_01_holds : PySem.Challenge.rw_dm0204_01.Holds := by
  refine Mine.hd01 ?_
  k_go0
  rename Below _ _ _ _ => B
  rename Fr _ _ _ _ => F
  rename News _ _ _ _ => N
  rename Frag.In _ _ => X
  rename Top _ _ _ _ _ _ => T
  rename IntsAre _ _ => hI
  rename Heap.IsList _ _ _ => hl
  rename_i hd3 hd2 hd1 _
  refine Mine.law_body B F N X T ⟨_, hd1⟩ ⟨_, hd2⟩ ⟨_, hd3⟩ rfl hl hI (by omega) ?_ ?_
  · intro h' tk m' F'
    k_end
    wrow_close
  · intro e
    passes_own
