import PyProof.Rows.All
import Wide.All
import OpenK.AllK
import Wide.FinOn
import PySem.Challenge.RW_dm0204_02
open PySem PySem.W PyProof.Rows PySem.Calls
set_option Elab.async false
set_option maxRecDepth 100000
set_option maxHeartbeats 8000000
/- the plain side: what _strip_padding takes off, over lists of code points -/
namespace Mine

/-- how many blanks stand ahead -/
def lead (l : List Nat) : Nat := (l.takeWhile (· == 32)).length
def trail (l : List Nat) : Nat := lead l.reverse

theorem lead_le (l : List Nat) : lead l ≤ l.length := by
  unfold lead
  induction l with
  | nil => simp
  | cons a r ih => rw [List.takeWhile_cons]; split <;> simp <;> omega
theorem trail_le (l : List Nat) : trail l ≤ l.length := by
  have := lead_le l.reverse
  rw [List.length_reverse] at this
  exact this
theorem lead_blank {l : List Nat} {i : Nat} (h : i < lead l) : l[i]? = some 32 := by
  induction l generalizing i with
  | nil => simp [lead] at h
  | cons a r ih =>
    unfold lead at h
    rw [List.takeWhile_cons] at h
    split at h
    · rename_i ha
      cases i with
      | zero => simpa using ha
      | succ i => rw [List.getElem?_cons_succ]; exact ih (by simp at h; exact h)
    · simp at h
theorem lead_stop {l : List Nat} (h : lead l < l.length) : ∃ c, l[lead l]? = some c ∧ c ≠ 32 := by
  induction l with
  | nil => simp [lead] at h
  | cons a r ih =>
    unfold lead at h ⊢
    rw [List.takeWhile_cons] at h ⊢
    split at h
    · rename_i ha
      rw [if_pos ha]
      simp only [List.length_cons, Nat.add_lt_add_iff_right, List.getElem?_cons_succ] at h ⊢
      exact ih h
    · rename_i ha
      rw [if_neg ha]
      exact ⟨a, rfl, by simpa using ha⟩
theorem trail_blank {l : List Nat} {j : Nat} (h : j < trail l) : l[l.length - 1 - j]? = some 32 := by
  have h1 := lead_blank h
  have := trail_le l
  rw [List.getElem?_reverse (by omega)] at h1
  exact h1
theorem trail_stop {l : List Nat} (h : trail l < l.length) : ∃ c, l[l.length - 1 - trail l]? = some c ∧ c ≠ 32 := by
  obtain ⟨c, h1, h2⟩ := lead_stop (l := l.reverse) (by rw [List.length_reverse]; exact h)
  rw [List.getElem?_reverse (by exact h)] at h1
  exact ⟨c, h1, h2⟩
theorem lead_trail {l : List Nat} (h : lead l < l.length) : lead l + trail l < l.length := by
  obtain ⟨c, h1, h2⟩ := lead_stop h
  refine Nat.lt_of_not_le fun hc => h2 ?_
  have := trail_le l
  by_cases h3 : trail l = 0
  · omega
  have := trail_blank (l := l) (j := l.length - 1 - lead l) (by omega)
  rw [show l.length - 1 - (l.length - 1 - lead l) = lead l by omega, h1] at this
  exact Option.some.inj this

theorem take_blank {l : List Nat} {a : Nat} (h : a ≤ l.length) : l.take a = List.replicate a 32 ↔ a ≤ lead l := by
  constructor
  · intro e
    refine Nat.le_of_not_lt fun hc => ?_
    obtain ⟨c, h1, h2⟩ := lead_stop (l := l) (by omega)
    have : (l.take a)[lead l]? = some c := by rw [List.getElem?_take, if_pos hc]; exact h1
    rw [e, List.getElem?_replicate, if_pos hc] at this
    exact h2 (Option.some.inj this).symm
  · intro e
    apply List.ext_getElem?
    intro i
    rw [List.getElem?_take, List.getElem?_replicate]
    by_cases hi : i < a
    · rw [if_pos hi, if_pos hi, lead_blank (by omega)]
    · rw [if_neg hi, if_neg hi]
theorem drop_blank {l : List Nat} {b : Nat} (h : b ≤ l.length) : l.drop (l.length - b) = List.replicate b 32 ↔ b ≤ trail l := by
  unfold trail
  rw [← take_blank (l := l.reverse) (by rw [List.length_reverse]; exact h), List.take_reverse, ← List.reverse_inj, List.reverse_replicate]

/-- the bounds of what is left: none where an IndexError is raised -/
def stripB (l : List Nat) (n : Int) : Option (Nat × Nat) :=
  if lead l = l.length then
    if 0 ≤ n ∧ n ≤ l.length then some (n.toNat, l.length) else none
  else
    let a := if n < 0 then lead l else min (lead l) n.toNat
    let b := if n < 0 then trail l else min (trail l) (n.toNat - a)
    some (a, l.length - b)

end Mine
/- small helpers over the library's frames, ledgers and iterators -/
namespace Mine

theorem fr_stays {h₀ h h' : Heap} {L : Addr} {m : Str → Option Value} (F : Fr h₀ L h m) (k : ∀ b o, h.get? b = some o → h'.get? b = some o) : Fr h₀ L h' m :=
  ⟨F.ns.keeps k, fun b o e => k b o (F.keep b o e), F.above⟩
theorem news_stays {h₀ h h' : Heap} {L : Addr} {news : List (Addr × Obj)} (N : News h₀ L h news) (k : ∀ b o, h.get? b = some o → h'.get? b = some o) : News h₀ L h' news :=
  fun p hp => ⟨k _ _ (N p hp).1, (N p hp).2.1, (N p hp).2.2⟩
theorem news_add {h₀ h h' : Heap} {L D : Addr} {m : Str → Option Value} {o : Obj} {news : List (Addr × Obj)} (F : Fr h₀ L h m) (N : News h₀ L h' news) (hD : h'.get? D = some o) (hnew : h.get? D = none) :
    News h₀ L h' ((D, o) :: news) := by
  intro p hp
  rcases List.mem_cons.mp hp with rfl | hp
  · refine ⟨hD, ?_, ?_⟩
    · rintro rfl
      obtain ⟨oL, _, _, hL, _⟩ := F.ns
      rw [hnew] at hL; cases hL
    · cases e : h₀.get? D with
      | none => rfl
      | some o' => have := F.keep _ _ e; rw [hnew] at this; cases this
  · exact N p hp
theorem stays_but {h h₂ h' : Heap} {wr : List Addr} (k : ∀ b o, h.get? b = some o → h₂.get? b = some o) (hf : ∀ b ∈ wr, h.get? b = none)
    (hk : ∀ b o, b ∉ wr → h₂.get? b = some o → h'.get? b = some o) : ∀ b o, h.get? b = some o → h'.get? b = some o :=
  fun b o e => hk b o (fun hb => by rw [hf b hb] at e; cases e) (k b o e)
theorem fresh_size {h : Heap} {b : Addr} (hb : h.objs.size ≤ b) : h.get? b = none := by
  cases e : h.get? b with
  | none => rfl
  | some o => exact absurd (Heap.lt_size e) (Nat.not_lt.mpr hb)

theorem fresh_wr {h : Heap} : ∀ b ∈ [h.objs.size], h.get? b = none := fun b hb => by
  rcases List.mem_cons.mp hb with rfl | hb
  · exact fresh_size (Nat.le_refl _)
  · cases hb

/-- n blanks -/
def blanks (n : Nat) : Str := ⟨(List.replicate n 32).toArray⟩
theorem blanks_length (n : Nat) : (blanks n).length = n := by simp [blanks, Str.length]
theorem foldl_app_rep (x : Nat) : ∀ (n : Nat) (acc : Array Nat), ((List.replicate n #[x]).foldl (· ++ ·) acc) = acc ++ (List.replicate n x).toArray
  | 0, acc => by simp
  | n + 1, acc => by
    rw [List.replicate_succ, List.foldl_cons, foldl_app_rep x n, List.replicate_succ]
    apply Array.toList_inj.mp; simp
theorem mul_blanks {n : Int} (h : 0 ≤ n) : Txt.mul ⟨#[32]⟩ n = blanks n.toNat := by
  unfold Txt.mul
  split
  · have : n.toNat = 0 := by omega
    rw [this]; rfl
  · split
    · rename_i h1 h2
      have : n = 1 := by simpa [Str.length] using h2
      subst this; rfl
    · rw [foldl_app_rep]; simp [blanks]

section
variable {prog : Program} {w : World} {A : Around} {E : Value → Shared → Prop} {s : Shared}
theorem mul_blank {n : Int} {t u : Tok} {Q : Value → Shared → Prop} (h0 : 0 ≤ n) (h1 : n ≤ 1048576) (h : ∀ t' k, Q (.str (blanks n.toNat) t') { s with toks := k }) :
    wpAny (model prog w) A (binaryOp .Mult (.str (Str.ofString " ") t) (.int n u)) Q E s := by
  rw [show Str.ofString " " = (⟨#[32]⟩ : Str) from by decide +kernel]
  refine SB.mul ⟨?_, ?_, ?_⟩ (fun t' k => ?_)
  · simp only [Bool.or_eq_false_iff, decide_eq_false_iff_not]; omega
  · intro h2 _
    have h3 : ((⟨#[32]⟩ : Str).length : Int) = 1 := rfl
    rw [h3]
    have : (2 ^ 63 - 1) / n ≥ 1 := by
      rw [ge_iff_le, Int.le_ediv_iff_mul_le (by omega)]; omega
    omega
  · intro _ _
    have h3 : (⟨#[32]⟩ : Str).length = 1 := rfl
    rw [h3]
    unfold Builtin.Str.tooLong
    have hsl : sizeLine = 16777216 := rfl
    simp only [decide_eq_false_iff_not]
    omega
  · rw [mul_blanks h0]; exact h t' k

/-- the iterator of range(N) -/
theorem range_iter {N : Nat} {t : Tok} {Q : Value → Shared → Prop} (hN : (N : Int) < 2 ^ 62)
    (k : ∀ I h' tk, (∀ b o, s.heap.get? b = some o → h'.get? b = some o) → s.heap.get? I = none → I < h'.objs.size → IsRangeIter h' I (0 + ((0 : Nat) : Int) * 1) ((N : Int) - ((0 : Nat) : Int)) 1 → Q (.ref I) { s with heap := h', toks := tk }) :
    wpAny (model prog w) A (call (.type "range") [.int (N : Int) t]) (fun xv s₁ => wpAny (model prog w) A (pyIter xv) Q E s₁) E s := by
  refine call_range_1 (wpAny_pyIter_range (IsRange.new _ _ _ _ _ _ _) (small_one (by omega) (by omega) (by omega) hN) ?_)
  have e : Builtin.Range.rangeSize 0 (N : Int) 1 = N := by rw [rangeSize_one]; split <;> omega
  rw [e]
  refine k _ _ _ (fun b o e => Heap.get?_push_of_some _ (Heap.get?_push_of_some _ e)) (fresh_size (by rw [Heap.size_push]; exact Nat.le_succ _)) (by simp only [Heap.size_push]; exact Nat.lt_succ_self _) ?_
  have := Heap.get?_push_size (s.heap.push { cls := .type "range", data := .fields #[.int 0 s.toks, .int (N : Int) t, .int 1 (s.toks + 1)] }) (o := { cls := .type "range_iterator", data := .fields #[rawInt 0, rawInt (N : Int), rawInt 1] }) rfl
  simpa using this

theorem ints_of_range : ∀ {n : Nat} {vs : List Value} {a : Int}, vs.length = n → (∀ j v, vs[j]? = some v → ∃ t, v = Value.int (a + (j : Nat) * 1) t) → IntsAre vs ((List.range n).map fun (i : Nat) => a + (i : Int))
  | 0, [], _, _, _ => .nil
  | n + 1, v :: vs, a, hl, h => by
    obtain ⟨t, rfl⟩ := h 0 v rfl
    have r := ints_of_range (n := n) (vs := vs) (a := a + 1) (by simpa using hl) (fun j u hu => by
      obtain ⟨t, e⟩ := h (j + 1) u (by simpa using hu)
      refine ⟨t, e.trans ?_⟩
      congr 1
      omega)
    rw [List.range_succ_eq_map, List.map_cons, List.map_map]
    have e0 : a + ((0 : Nat) : Int) * 1 = a + ((0 : Nat) : Int) := by omega
    rw [e0]
    refine .cons _ t ?_
    have e : ((fun (i : Nat) => a + (i : Int)) ∘ Nat.succ) = fun (i : Nat) => a + 1 + (i : Int) := by funext i; simp; omega
    rw [e]
    exact r
theorem ints_filter {p : Value → Bool} {q : Int → Bool} (h : ∀ n t, p (Value.int n t) = q n) : ∀ {vs : List Value} {ns : List Int}, IntsAre vs ns → IntsAre (vs.filter p) (ns.filter q)
  | _, _, .nil => .nil
  | _, _, .cons n t r => by
    rw [List.filter_cons, List.filter_cons, h]
    cases q n with
    | true => simp only [if_true]; exact .cons n t (ints_filter h r)
    | false => simp only [Bool.false_eq_true, if_false]; exact ints_filter h r
theorem paired_eq : ∀ {l ys : List Value}, Paired (fun v y => y = v) l ys → ys = l
  | _, _, .nil => rfl
  | _, _, .cons h r => by rw [h, paired_eq r]

theorem walks_lt {I : Addr} {fp wr : List Addr} {n : Nat} {P : Nat → Value → Prop} {St : Nat → Heap → Prop} (W : Walks prog w A I fp wr n P St) : Walks prog w A I fp wr n (fun i v => i < n ∧ P i v) St where
  sub := W.sub
  frame := W.frame
  item := fun i s Q E hi st hQ => W.item i s Q E hi st fun v h' tk hP => hQ v h' tk ⟨hi, hP⟩
  done := W.done
  self := W.self

/-- all that stood still stands -/
theorem kept_stays (h : Heap) : KeptH (fun h' => ∀ b o, h.get? b = some o → h'.get? b = some o) := fun _ ob a b o e => Heap.get?_push_of_some ob (a b o e)
theorem slice_ns_stays {value slice : Expr} {x : Str} {t : Tok} {j : Int} {uj : Tok} {Q : Value → Shared → Prop}
    (h : ∀ h' t' k, (∀ b o, s.heap.get? b = some o → h'.get? b = some o) → Q (.str (Txt.slice x none (some j)) t') { s with heap := h', toks := k }) (hsz : x.length ≤ sizeLine)
    (hs : subscripted slice false (.str x t) (.ref s.heap.objs.size) = operate [.ref s.heap.objs.size, .str x t] (getItem (.str x t) (.ref s.heap.objs.size)) := by with_unfolding_all rfl)
    (ht : ∀ r, letTemporaryGo value (.str x t) r = pure () := by intro _; with_unfolding_all rfl) :
    wpAny (model prog w) A (subscriptTail value slice (.str x t) (.ref s.heap.objs.size)) Q E { s with heap := s.heap.push { cls := .type "slice", data := .fields #[.none, .int j uj, .none] } } :=
  tail_of_ItemOn (SBH.sliceItem_ns (kept_stays s.heap) (fun _ _ e => e) h hsz) hs ht
theorem slice_sn_stays {value slice : Expr} {x : Str} {t : Tok} {i : Int} {ui : Tok} {Q : Value → Shared → Prop}
    (h : ∀ h' t' k, (∀ b o, s.heap.get? b = some o → h'.get? b = some o) → Q (.str (Txt.slice x (some i) none) t') { s with heap := h', toks := k }) (hsz : x.length ≤ sizeLine)
    (hs : subscripted slice false (.str x t) (.ref s.heap.objs.size) = operate [.ref s.heap.objs.size, .str x t] (getItem (.str x t) (.ref s.heap.objs.size)) := by with_unfolding_all rfl)
    (ht : ∀ r, letTemporaryGo value (.str x t) r = pure () := by intro _; with_unfolding_all rfl) :
    wpAny (model prog w) A (subscriptTail value slice (.str x t) (.ref s.heap.objs.size)) Q E { s with heap := s.heap.push { cls := .type "slice", data := .fields #[.int i ui, .none, .none] } } :=
  tail_of_ItemOn (SBH.sliceItem_sn (kept_stays s.heap) (fun _ _ e => e) h hsz) hs ht
theorem slice_ss_stays {value slice : Expr} {x : Str} {t : Tok} {i j : Int} {ui uj : Tok} {Q : Value → Shared → Prop}
    (h : ∀ h' t' k, (∀ b o, s.heap.get? b = some o → h'.get? b = some o) → Q (.str (Txt.slice x (some i) (some j)) t') { s with heap := h', toks := k }) (hsz : x.length ≤ sizeLine)
    (hs : subscripted slice false (.str x t) (.ref s.heap.objs.size) = operate [.ref s.heap.objs.size, .str x t] (getItem (.str x t) (.ref s.heap.objs.size)) := by with_unfolding_all rfl)
    (ht : ∀ r, letTemporaryGo value (.str x t) r = pure () := by intro _; with_unfolding_all rfl) :
    wpAny (model prog w) A (subscriptTail value slice (.str x t) (.ref s.heap.objs.size)) Q E { s with heap := s.heap.push { cls := .type "slice", data := .fields #[.int i ui, .int j uj, .none] } } :=
  tail_of_ItemOn (SBH.sliceItem_ss (kept_stays s.heap) (fun _ _ e => e) h hsz) hs ht
theorem in_one {P : Addr → Prop} {I : Addr} (h : P I) : ∀ b ∈ [I], P b := fun b hb => by
  rcases List.mem_cons.mp hb with rfl | hb
  · exact h
  · cases hb
end
end Mine
section
open PySem.SeqAt PySem.Spec
/- rows (a list or a tuple) of things -/
namespace Mine

/-- a row: a list (true) or a tuple (false) -/
def rowObj (k : Bool) (vs : List Value) (n : Nat) : Obj := { cls := .type (if k then "list" else "tuple"), data := .seq vs.toArray n }

/-- what a thing is -/
def dat : Value → PyData
  | .str x _ => .str x
  | .int i _ => .int i
  | .ref _ => .list [.str (Str.ofString " ")]
  | _ => .none
def isBlank : Value → Bool
  | .str x _ => x == Str.ofString " "
  | _ => false
def words : List Str := [Str.ofString " ", Str.ofString "", Str.ofString "  ", Str.ofString "\t", Str.ofString "x"]
def Good (B : Addr) (v : Value) : Prop := (∃ x t, v = .str x t ∧ x ∈ words) ∨ (∃ t, v = .int 7 t) ∨ v = .none ∨ v = .ref B
def code (vs : List Value) : List Nat := vs.map fun v => if isBlank v then 32 else 0
theorem code_length (vs : List Value) : (code vs).length = vs.length := by simp [code]
theorem code_at {vs : List Value} {i : Nat} {v : Value} (h : vs[i]? = some v) : (code vs)[i]? = some (if isBlank v then 32 else 0) := by simp [code, h]

/-- the inner list -/
abbrev inner (B : Addr) (tb : Tok) : Addr × Obj := (B, rowObj true [.str (Str.ofString " ") tb] 0)

theorem good_reads {h : Heap} {B : Addr} {tb : Tok} {v : Value} (g : Good B v) (hb : h.get? B = some (rowObj true [.str (Str.ofString " ") tb] 0)) : ∃ as, Reads h v (dat v) as := by
  rcases g with ⟨x, t, rfl, _⟩ | ⟨t, rfl⟩ | rfl | rfl
  · exact ⟨_, .str _ _⟩
  · exact ⟨_, .int _ _⟩
  · exact ⟨_, .none⟩
  · exact ⟨_, .list hb rfl rfl (.cons (.str _ _) .nil)⟩
theorem good_readsAll {h : Heap} {B : Addr} {tb : Tok} (hb : h.get? B = some (rowObj true [.str (Str.ofString " ") tb] 0)) : ∀ {vs : List Value}, (∀ v ∈ vs, Good B v) → ∃ as, ReadsAll h vs (vs.map dat) as
  | [], _ => ⟨_, .nil⟩
  | v :: vs, g => by
    obtain ⟨as, h1⟩ := good_reads (g v (.head _)) hb
    obtain ⟨bs, h2⟩ := good_readsAll hb (vs := vs) fun u hu => g u (.tail _ hu)
    exact ⟨_, .cons h1 h2⟩
def rowData (k : Bool) (vs : List Value) : PyData := if k then .list (vs.map dat) else .tuple (vs.map dat)
theorem row_reads {h : Heap} {B D : Addr} {tb : Tok} {k : Bool} {vs : List Value} {n : Nat} (hb : h.get? B = some (rowObj true [.str (Str.ofString " ") tb] 0)) (hd : h.get? D = some (rowObj k vs n)) (g : ∀ v ∈ vs, Good B v) :
    ∃ as, Reads h (.ref D) (rowData k vs) as := by
  obtain ⟨as, h1⟩ := good_readsAll hb g
  cases k with
  | true => exact ⟨_, .list hd rfl rfl h1⟩
  | false => exact ⟨_, .tuple hd rfl rfl h1⟩
theorem good_lay {B : Addr} {v : Value} (g : Good B v) : (dat v).canLay0 = true ∧ (dat v).depth ≤ 1 := by
  rcases g with ⟨x, t, rfl, hx⟩ | ⟨t, rfl⟩ | rfl | rfl
  · simp only [words, List.mem_cons, List.not_mem_nil, or_false] at hx
    rcases hx with rfl | rfl | rfl | rfl | rfl <;> exact ⟨by simp only [dat]; decide +kernel, by simp [dat, PyData.depth]⟩
  · exact ⟨rfl, by simp [dat, PyData.depth]⟩
  · exact ⟨rfl, by simp [dat, PyData.depth]⟩
  · exact ⟨by simp only [dat]; decide +kernel, by simp [dat, PyData.depth, PyData.depthAll]⟩
theorem good_layAll {B : Addr} : ∀ {vs : List Value}, (∀ v ∈ vs, Good B v) → PyData.canLayAll0 (vs.map dat) = true ∧ PyData.depthAll (vs.map dat) ≤ 1
  | [], _ => ⟨rfl, by simp [PyData.depthAll]⟩
  | v :: vs, g => by
    obtain ⟨a1, a2⟩ := good_lay (g v (.head _))
    obtain ⟨b1, b2⟩ := good_layAll (vs := vs) fun u hu => g u (.tail _ hu)
    refine ⟨?_, ?_⟩
    · simp [PyData.canLayAll0, a1, b1]
    · simp only [List.map_cons, PyData.depthAll]; omega
theorem good_shaped {B : Addr} {v : Value} (g : Good B v) : shaped (dat v) = true := by
  obtain ⟨a1, a2⟩ := good_lay g
  unfold shaped
  rw [a1, Bool.true_and, decide_eq_true_eq]; omega
theorem row_lay {B : Addr} {k : Bool} {vs : List Value} (g : ∀ v ∈ vs, Good B v) : (rowData k vs).canLay0 = true := by
  obtain ⟨b1, b2⟩ := good_layAll g
  cases k <;> simpa [rowData, PyData.canLay0] using b1
theorem row_shaped {B : Addr} {k : Bool} {vs : List Value} (g : ∀ v ∈ vs, Good B v) : shaped (rowData k vs) = true := by
  obtain ⟨b1, b2⟩ := good_layAll g
  unfold shaped
  rw [row_lay g, Bool.true_and, decide_eq_true_eq]
  cases k <;> simp only [rowData, Bool.false_eq_true, if_false, if_true, PyData.depth] <;> omega
theorem good_eqv {B : Addr} {v : Value} (g : Good B v) : PyData.eqv (dat v) (.str (Str.ofString " ")) = isBlank v := by
  rcases g with ⟨x, t, rfl, _⟩ | ⟨t, rfl⟩ | rfl | rfl
  · simp [dat, PyData.eqv, isBlank]
  · simp [dat, PyData.eqv, isBlank]
  · simp [dat, PyData.eqv, isBlank]
  · simp [dat, PyData.eqv, isBlank]

section
variable {prog : Program} {w : World} {A : Around} {E : Value → Shared → Prop} {s : Shared} {h₀ : Heap} {L : Addr} {m : Str → Option Value} {news : List (Addr × Obj)}

theorem row_isList {h : Heap} {D : Addr} {vs : List Value} {n : Nat} (hd : h.get? D = some (rowObj true vs n)) : h.IsList D vs.toArray := ⟨_, hd, rfl, _, rfl⟩
theorem row_isTup {h : Heap} {D : Addr} {vs : List Value} {n : Nat} (hd : h.get? D = some (rowObj false vs n)) : IsTup h D vs.toArray := ⟨_, hd, rfl, _, rfl⟩

theorem getItem_tuple_out {t : Addr} {items : Array Value} {k : Int} {u : Tok} {Q : Value → Shared → Prop} (hA : A.handled = none) (ht : IsTup s.heap t items)
    (hlo : 0 ≤ k) (hhi : k < 2 ^ 63) (hj : (items.size : Int) ≤ k) (hE : ∀ h' tk e, Heap.NewExc s.heap h' e "IndexError" → E (.ref e) { s with heap := h', toks := tk }) : wpAny (model prog w) A (getItem (.ref t) (.int k u)) Q E s := by
  unfold getItem
  try with_reducible refine wpAny_holding ?_
  first | refine wpAny_bind (wpAny_pure ?_) | skip
  refine wpAny_bind (wpAny_sequenceKey ht.typeIs (by decide) ?_)
  refine wpAny_bind (wpAny_callSpecial?_slot (name := Str.ofString "__getitem__") ht.typeIs slot_tuple_getitem
    (wpAny_call_entry slot_tuple_getitem ht.typeIs entry_tuple_getitem ?_ (args_tuple_getitem _ _)))
  show wpAny _ _ (Builtin.Tuple.tupleItemsOf (.ref t) >>= _) _ _ s
  refine wpAny_bind (tupleItemsOf_ ht ?_)
  refine wpAny_bind (wpAny_typeOf (typeIs_int s k u) ?_)
  rw [if_neg (by decide)]
  refine wpAny_bind (wpAny_specialOf (T := "int") (typeIs_int s k u) int_index ?_)
  rw [if_neg (by simp)]
  refine wpAny_bind (wpAny_of_eq (a := k) rfl ?_)
  rw [if_neg (by simp only [Bool.or_eq_true, decide_eq_true_eq]; omega)]
  have hx : ((seqIndex? k items.size).bind fun x => items[x]?) = none := by
    cases e : seqIndex? k items.size with
    | none => rfl
    | some j =>
      exfalso
      unfold seqIndex? at e
      have h0 : ¬ k < 0 := by omega
      simp only [h0, if_false] at e
      split at e
      · rename_i hc
        simp only [Bool.and_eq_true, decide_eq_true_eq] at hc
        omega
      · cases e
  simp only [hx]
  first
    | exact wpAny_bind (wpAny_rule (by exact_raiseError plainExc_IndexError hA hE))
    | exact wpAny_bind (wpAny_rule (wpAny_bind (by exact_raiseError plainExc_IndexError hA hE)))
    | exact wpAny_bind (wpAny_bind (wpAny_rule (by exact_raiseError plainExc_IndexError hA hE)))
    | exact wpAny_rule (by exact_raiseError plainExc_IndexError hA hE)

theorem row_item {value slice : Expr} {D : Addr} {k : Bool} {vs : List Value} {n : Nat} {i : Int} {u : Tok} {Q : Value → Shared → Prop} (hA : A.handled = none) (hd : s.heap.get? D = some (rowObj k vs n)) (h0 : 0 ≤ i) (hz : i < 2 ^ 63)
    (h1 : ∀ v, vs[i.toNat]? = some v → Q v s) (h2 : (vs.length : Int) ≤ i → ∀ h' tk e, Heap.NewExc s.heap h' e "IndexError" → E (.ref e) { s with heap := h', toks := tk })
    (hs : subscripted slice false (.ref D) (.int i u) = operate [.ref D, .int i u] (getItem (.ref D) (.int i u)) := by with_unfolding_all rfl) (hg : ∀ r, letTemporaryGo value (.ref D) r = pure () := by intro _; with_unfolding_all rfl) :
    wpAny (model prog w) A (subscriptTail value slice (.ref D) (.int i u)) Q E s := by
  by_cases hi : i < vs.length
  · have e : vs[i.toNat]? = some vs[i.toNat] := List.getElem?_eq_getElem (by omega)
    cases k with
    | true => exact item_list (row_isList hd) h0 hz (by simpa using e) (h1 _ e) hs hg
    | false =>
      have hj : seqIndex? i vs.length = some i.toNat := by
        unfold seqIndex?
        have h0 : ¬ i < 0 := by omega
        simp only [h0, if_false]
        rw [if_pos]
        simp only [Bool.and_eq_true, decide_eq_true_eq]
        omega
      exact item_tupleL (row_isTup hd) (by omega) hz hj e (h1 _ e) hs hg
  · cases k with
    | true => exact subscriptTail_builtin (row_isList hd).typeIs slot_list_getitem.lookup (wpAny_getItem_list_out hA (row_isList hd) (.inr (by simp; omega)) (by omega) hz (h2 (by omega))) hs hg
    | false => exact subscriptTail_builtin (row_isTup hd).typeIs slot_tuple_getitem.lookup (getItem_tuple_out hA (row_isTup hd) h0 hz (by simp; omega) (h2 (by omega))) hs hg

theorem row_len {D : Addr} {k : Bool} {vs : List Value} {n : Nat} {Q : Value → Shared → Prop} (hd : s.heap.get? D = some (rowObj k vs n)) (hz : vs.length ≤ sizeLine) (h : ∀ t tk, Q (.int vs.length t) { s with toks := tk }) :
    wpAny (model prog w) A (call (.builtin "len") [.ref D]) Q E s := by
  have hsl : sizeLine = 16777216 := rfl
  cases k with
  | true =>
    refine len_list (row_isList hd) (by simp; omega) ?_
    have := h (s.toks + 1) (s.toks + 1 + 1)
    simpa using this
  | false =>
    refine len_tuple (row_isTup hd) (by simp; omega) ?_
    have := h (s.toks + 1) (s.toks + 1 + 1)
    simpa using this

theorem adjust_run (a b n : Nat) (ha : a ≤ n) (hb : b ≤ n) : Builtin.Slice.sliceAdjust (some (a : Int)) (some (b : Int)) 1 (n : Int) = ((a : Int), (b : Int)) := by
  unfold Builtin.Slice.sliceAdjust
  have h1 : ¬ ((1 : Int) < 0) := by omega
  have h2 : ¬ ((a : Int) < 0) := by omega
  have h3 : ¬ ((b : Int) < 0) := by omega
  simp only [h1, h2, h3, if_false]
  congr 1 <;> omega
theorem places_run (a b : Nat) (hab : a ≤ b) : Builtin.Slice.slicePlaces (a : Int) (b : Int) 1 = b - a := by
  unfold Builtin.Slice.slicePlaces
  have h1 : (1 : Int) > 0 := by omega
  simp only [h1, if_true, Int.ediv_one]
  split <;> omega
theorem sliceApplied_run {sl : Addr} {a b n : Nat} {u u' : Tok} {Q : Int × Int × Nat → Shared → Prop} (hs : s.heap.IsSliceOf sl (.int a u) (.int b u') .none) (hab : a ≤ b) (hb : b ≤ n) (h : Q ((a : Int), 1, b - a) s) :
    wpAny (model prog w) A (Builtin.Slice.sliceApplied (.ref sl) (pure (n : Int))) Q E s := by
  obtain ⟨os, hos, hcs, hds⟩ := id hs
  unfold Builtin.Slice.sliceApplied Builtin.Slice.sliceFields
  refine wpAny_bind (wpAny_bind (wpAny_field hos hds (x := .int a u) rfl (wpAny_bind (wpAny_field hos hds (x := .int b u') rfl (wpAny_bind (wpAny_field hos hds (x := .none) rfl (wpAny_pure ?_)))))))
  refine wpAny_bind (slicePart_none ?_)
  show wpAny _ _ (if ((1 : Int) == 0) = true then _ else _) _ _ s
  rw [if_neg (by decide)]
  refine wpAny_bind (slicePart_int (wpAny_bind (slicePart_int (wpAny_bind (wpAny_pure ?_)))))
  show wpAny _ _ (match Builtin.Slice.sliceAdjust (some (a : Int)) (some (b : Int)) 1 (n : Int) with | (lo, hi) => pure (lo, (1 : Int), Builtin.Slice.slicePlaces lo hi 1)) _ _ s
  rw [adjust_run a b n (by omega) hb]
  show wpAny _ _ (pure ((a : Int), (1 : Int), Builtin.Slice.slicePlaces (a : Int) (b : Int) 1)) _ _ s
  rw [places_run a b hab]
  exact wpAny_pure h
theorem pick_part (xs : Array Value) (a c : Nat) : ((List.range c).filterMap fun (k : Nat) => xs[((a : Int) + (k : Int) * 1).toNat]?).toArray = ((xs.toList.drop a).take c).toArray := by
  have e : (fun (k : Nat) => xs[((a : Int) + (k : Int) * 1).toNat]?) = fun k => xs[a + k]? := by
    funext k
    have : ((a : Int) + (k : Int) * 1).toNat = a + k := by omega
    rw [this]
  rw [e]
  have := pick_run xs a c
  rw [List.filterMap_map] at this
  have e2 : ((fun x => xs[x]?) ∘ fun x => a + x) = fun k => xs[a + k]? := rfl
  rw [e2] at this
  rw [this]

theorem getItem_tuple_run {t sl : Addr} {items : Array Value} {a b : Nat} {u u' : Tok} {Q : Value → Shared → Prop} (ht : IsTup s.heap t items) (hs : s.heap.IsSliceOf sl (.int a u) (.int b u') .none) (hab : a ≤ b) (hb : b ≤ items.size)
    (h : b - a < items.size → Q (.ref s.heap.objs.size) { s with heap := s.heap.push { cls := .type "tuple", data := .seq ((items.toList.drop a).take (b - a)).toArray } }) (h' : b - a = items.size → Q (.ref t) s)
    (hsz : items.size ≤ sizeLine) : wpAny (model prog w) A (getItem (.ref t) (.ref sl)) Q E s := by
  have hdrop : sizeOk (.seq ((items.toList.drop a).take (b - a)).toArray) := by
    show ((items.toList.drop a).take (b - a)).toArray.size ≤ sizeLine
    rw [List.size_toArray, List.length_take, List.length_drop, Array.length_toList]
    omega
  obtain ⟨os, hos, hcs, hds⟩ := id hs
  have hTs : s.TypeIs (.ref sl) "slice" := ⟨os, hos, hcs⟩
  unfold getItem
  try with_reducible refine wpAny_holding ?_
  first | refine wpAny_bind (wpAny_pure ?_) | skip
  refine wpAny_bind (wpAny_sequenceKey ht.typeIs (by decide) ?_)
  refine wpAny_bind (wpAny_callSpecial?_slot (name := Str.ofString "__getitem__") ht.typeIs slot_tuple_getitem
    (wpAny_call_entry slot_tuple_getitem ht.typeIs entry_tuple_getitem ?_ (args_tuple_getitem _ _)))
  show wpAny _ _ (Builtin.Tuple.tupleItemsOf (.ref t) >>= _) _ _ s
  refine wpAny_bind (tupleItemsOf_ ht ?_)
  refine wpAny_bind (wpAny_typeOf hTs ?_)
  rw [if_pos (by decide)]
  refine wpAny_bind (sliceApplied_run hs hab hb ?_)
  by_cases hw : b - a = items.size
  · have ha0 : a = 0 := by omega
    subst ha0
    show wpAny _ _ (if (((0 : Nat) : Int) == 0 && (1 : Int) == 1 && (b - 0) == items.size) = true then _ else _) _ _ s
    rw [if_pos (by simp; omega)]
    unfold Builtin.Tuple.tupleIsExact
    first
      | exact wpAny_bind (wpAny_bind (wpAny_typeOf ht.typeIs (wpAny_pure (wpAny_bind (wpAny_rule (wpAny_pure ⟨_, rfl, wpAny_pure (h' hw)⟩))))))
      | exact wpAny_bind (wpAny_bind (wpAny_typeOf ht.typeIs (wpAny_pure (wpAny_bind (wpAny_rule (wpAny_bind (wpAny_pure (wpAny_pure ⟨_, rfl, wpAny_pure (h' hw)⟩))))))))
  · have hno : ¬ (((a : Int) == 0 && (1 : Int) == 1 && (b - a) == items.size) = true) := by
      have : ((b - a) == items.size) = false := by rw [beq_eq_false_iff_ne]; omega
      rw [this]; simp
    show wpAny _ _ (if ((a : Int) == 0 && (1 : Int) == 1 && (b - a) == items.size) = true then _ else _) _ _ s
    rw [if_neg hno, pick_part items a (b - a)]
    have h := h (by omega)
    first
      | exact wpAny_bind (m := Builtin.Tuple.tupleExact _) (wpAny_newObj_type (wpAny_pure ⟨_, rfl, wpAny_pure h⟩) hdrop)
      | exact wpAny_bind (m := Builtin.Tuple.tupleExact _) (wpAny_newObj_type (wpAny_bind (wpAny_pure (wpAny_pure ⟨_, rfl, wpAny_pure h⟩))) hdrop)
      | exact wpAny_bind (wpAny_bind (m := Builtin.Tuple.tupleExact _) (wpAny_newObj_type (wpAny_pure (wpAny_pure ⟨_, rfl, wpAny_pure h⟩)) hdrop))
      | exact wpAny_bind (wpAny_bind (m := Builtin.Tuple.tupleExact _) (wpAny_newObj_type (wpAny_pure ⟨_, rfl, wpAny_pure h⟩) hdrop))

theorem row_slice {value slice : Expr} {D : Addr} {k : Bool} {vs : List Value} {n a b : Nat} {u u' : Tok} {Q : Value → Shared → Prop} (F : Fr h₀ L s.heap m) (N : News h₀ L s.heap news) (hd : (D, rowObj k vs n) ∈ news) (hab : a ≤ b) (hb : b ≤ vs.length)
    (h : ∀ D' n' h' news', Fr h₀ L h' m → News h₀ L h' news' → (∀ q ∈ news, q ∈ news') → (D', rowObj k ((vs.drop a).take (b - a)) n') ∈ news' → (k = true → ∀ q ∈ news, q.1 ≠ D') → Q (.ref D') { s with heap := h' })
    (hs : subscripted slice false (.ref D) (.ref s.heap.objs.size) = operate [.ref s.heap.objs.size, .ref D] (getItem (.ref D) (.ref s.heap.objs.size)) := by with_unfolding_all rfl)
    (hg : ∀ r, letTemporaryGo value (.ref D) r = pure () := by intro _; with_unfolding_all rfl)
    (hsz : vs.length ≤ sizeLine) :
    wpAny (model prog w) A (subscriptTail value slice (.ref D) (.ref s.heap.objs.size)) Q E { s with heap := s.heap.push { cls := .type "slice", data := .fields #[.int a u, .int b u', .none] } } := by
  have hD := (N _ hd).1
  cases k with
  | true =>
    refine slice_list F N (row_isList hD) (.int _ _) (.int _ _) (fun h' F' N' => ?_) hs hg (by simpa using hsz)
    rw [slicePick_run _ a b (by simpa using hb) hab] at N'
    refine h _ 0 h' _ F' N' (fun q hq => .tail _ hq) (.head _) (fun _ q hq => Nat.ne_of_lt (Nat.lt_succ_of_lt (Heap.lt_size (N q hq).1)))
  | false =>
    have ht' : IsTup (s.heap.push { cls := .type "slice", data := .fields #[.int a u, .int b u', .none] }) D vs.toArray := (row_isTup hD).keeps fun _ _ e => Heap.get?_push_of_some _ e
    refine subscriptTail_ops (s := { s with heap := s.heap.push { cls := .type "slice", data := .fields #[.int a u, .int b u', .none] } }) ht'.typeIs slot_tuple_getitem.lookup
      (getItem_tuple_run ht' (Heap.IsSliceOf.new ..) hab (by simpa using hb) (fun _ => ?_) (fun hw => ?_) (by simpa using hsz)) hs hg
    · have N1 := News.push (F.push { cls := .type "slice", data := .fields #[.int a u, .int b u', .none] }) (N.grown fun _ _ e => Heap.get?_push_of_some _ e) { cls := .type "tuple", data := .seq ((vs.toArray.toList.drop a).take (b - a)).toArray }
      exact h _ 0 _ _ ((F.push _).push _) N1 (fun q hq => .tail _ hq) (.head _) (fun hc => by cases hc)
    · have e : (vs.drop a).take (b - a) = vs := by
        have ha0 : a = 0 := by simp at hw; omega
        subst ha0
        rw [List.drop_zero, List.take_of_length_le (by simp at hw; omega)]
      exact h D n _ news (F.push _) (N.grown fun _ _ e => Heap.get?_push_of_some _ e) (fun q hq => hq) (by rw [e]; exact hd) (fun hc => by cases hc)

theorem row_list {D : Addr} {k : Bool} {vs : List Value} {n : Nat} {Q : Value → Shared → Prop} (F : Fr h₀ L s.heap m) (N : News h₀ L s.heap news) (hd : (D, rowObj k vs n) ∈ news)
    (h : ∀ D' n' h', Fr h₀ L h' m → News h₀ L h' ((D', rowObj true vs n') :: news) → (∀ q ∈ news, q.1 ≠ D') → Q (.ref D') { s with heap := h' }) (hsz : vs.length ≤ sizeLine) :
    wpAny (model prog w) A (call (.type "list") [.ref D]) Q E s := by
  have hD := (N _ hd).1
  refine call_list_seq (hsz := by simpa using hsz) D (T := if k then "list" else "tuple") (by cases k <;> simp) hD rfl rfl fun h' c' hk hD' => ?_
  refine h _ c' h' (F.keeps hk) ?_ (News.ne_size N)
  exact news_add F (news_stays N hk) hD' (fresh_size (Nat.le_refl _))
theorem row_tuple {D : Addr} {vs : List Value} {n : Nat} {Q : Value → Shared → Prop} (F : Fr h₀ L s.heap m) (N : News h₀ L s.heap news) (hd : (D, rowObj true vs n) ∈ news)
    (h : ∀ D' n' h', Fr h₀ L h' m → News h₀ L h' ((D', rowObj false vs n') :: news) → Q (.ref D') { s with heap := h' }) (hsz : vs.length ≤ sizeLine) :
    wpAny (model prog w) A (call (.type "tuple") [.ref D]) Q E s :=
  tuple_ofL F N (row_isList (N _ hd).1) (fun D' h' F' N' _ => h D' 0 h' F' N') hsz
end
end Mine
end
namespace Mine
set_option maxRecDepth 100000 in
set_option maxHeartbeats 8000000 in
open_top hd02 for PySem.Challenge.rw_dm0204_02
end Mine
namespace Mine

section
variable {prog : Program} {w : World} {A : Around} {E : Value → Shared → Prop} {s : Shared} {h₀ : Heap} {L a : Addr} {m : Str → Option Value} {news : List (Addr × Obj)} {name : Str} {scope : Scope} {cd : Value}

/-- «n and x[i] == ' '» -/
theorem rstrip_test {D Bi : Addr} {kd : Bool} {vs : List Value} {n₀ : Nat} {tb : Tok} {ti ta : Tok} {i n : Int} {nA nS nI : Str} {p1 p2 p3 p4 p5 p6 p7 : Pos} {k7 : Nat} {whole : Sem Value} {Q : Bool → Shared → Prop}
    (F : Fr h₀ L s.heap m) (N : News h₀ L s.heap news) (hm : m nA = some (.int n ta)) (hs : m nS = some (.ref D)) (hi : m nI = some (.int i ti)) (hA : A.handled = none) (hD : (D, rowObj kd vs n₀) ∈ news) (hB : inner Bi tb ∈ news) (hG : ∀ v ∈ vs, Good Bi v) (hu : A.units + 64 < cLine)
    (hi0 : n ≠ 0 → 0 ≤ i) (hr : i < 2 ^ 63)
    (h0 : n = 0 → Q false s)
    (h1 : n ≠ 0 → ∀ tk v, vs[i.toNat]? = some v → Q (isBlank v) { s with toks := tk })
    (h2 : n ≠ 0 → (vs.length : Int) ≤ i → ∀ h' tk e, Heap.NewExc s.heap h' e "IndexError" → E (.ref e) { s with heap := h', toks := tk })
    (hk : scope.kind = .function) (hl1 : (envOf name scope L a cd).kindOf nA = some .local) (hl2 : (envOf name scope L a cd).kindOf nS = some .local) (hl3 : (envOf name scope L a cd).kindOf nI = some .local)
    (hd1 : (nA == ("__debug__" : Str)) = false) (hd2 : (nS == ("__debug__" : Str)) = false) (hd3 : (nI == ("__debug__" : Str)) = false) :
    wpAny (model prog w) A (isTrue (.BoolOp .And [.Name nA p1, .Compare (.Subscript (.Name nS p2) (.Name nI p3) p4) [.Eq] [.Constant (.str " ") k7 p5] p6] p7) (envOf name scope L a cd) whole) Q E s := by
  refine isTrue_and (isTrue_plain (ld F hm (truthy_int ?_) hk hl1 hd1))
  by_cases hn : n = 0
  · subst hn
    simp only [bne_self_eq_false, Bool.false_eq_true, if_false]
    exact h0 rfl
  · rw [if_pos (by simpa using hn)]
    refine isTrue_and (wpAny_isTrue_Compare1 (Subscript_ (ld F hs (ld F hi (row_item hA (N _ hD).1 (hi0 hn) hr (fun v hv => ?_) (h2 hn)) hk hl3 hd3) hk hl2 hd2)))
    have g := hG v (List.mem_of_getElem? hv)
    obtain ⟨as, ra⟩ := good_reads g (N _ hB).1
    refine Constant_str (eq_dataH (s := { s with toks := _ }) ra (.str _ _) (good_shaped g) (by decide +kernel) hu (wpAny_truthy_bool ?_))
    rw [good_eqv g]
    have q := h1 hn (s.toks + 1) v hv
    cases hb : isBlank v with
    | true => rw [hb] at q; exact isTrue_and_nil q
    | false => rw [hb] at q; exact q

/-- «i += 1 ; n -= 1» and «i -= 1 ; n -= 1» -/
theorem rstrip_turn {i n : Int} {ti ta : Tok} {nA nI : Str} {op : Operator} {p1 p2 p3 p4 p5 p6 : Pos} {k1 k2 : Nat} {Q : Flow → Shared → Prop} {j : Int}
    (F : Fr h₀ L s.heap m) (N : News h₀ L s.heap news) (hm : m nA = some (.int n ta)) (hi : m nI = some (.int i ti)) (hne : nA ≠ nI)
    (hop : (op = .Add ∧ j = i + 1) ∨ (op = .Sub ∧ j = i - 1))
    (h : ∀ h' tk t1 t2 m', Fr h₀ L h' m' → News h₀ L h' news → m' nA = some (.int (n - 1) t1) → m' nI = some (.int j t2) → (∀ y, y ≠ nA → y ≠ nI → m' y = m y) → Q .next { s with heap := h', toks := tk })
    (hk : scope.kind = .function) (hl1 : (envOf name scope L a cd).kindOf nA = some .local) (hl3 : (envOf name scope L a cd).kindOf nI = some .local) :
    wpAny (model prog w) A (execs [.AugAssign (.Name nI p1) op (.Constant (.int 1) k1 p2) p3, .AugAssign (.Name nA p4) .Sub (.Constant (.int 1) k2 p5) p6] (envOf name scope L a cd)) Q E s := by
  have last : ∀ (s' : Shared) (t' : Tok), Fr h₀ L s'.heap (fun y => if y = nI then some (.int j t') else m y) → News h₀ L s'.heap news → s'.gens = s.gens → s'.drawn = s.drawn → s'.os = s.os →
      wpAny (model prog w) A (execs [.AugAssign (.Name nA p4) .Sub (.Constant (.int 1) k2 p5) p6] (envOf name scope L a cd)) Q E s' := by
    intro s' t' F' N' e1 e2 e3
    refine wpAny_execs_cons (wpAny_AugAssign_Name (ldn F' (by rw [if_neg hne]; exact hm) (wpAny_Constant_int (PyProof.Rows.isub_int ?_)) hk hl1))
    refine stN F' N' (fun h'' F'' N'' => wpAny_execs_nil ?_) hk hl1
    obtain ⟨hp, gs, dr, tks, os⟩ := s'
    cases e1; cases e2; cases e3
    exact h h'' _ _ _ _ F'' N'' (if_pos rfl) (by rw [if_neg (Ne.symm hne), if_pos rfl]) (fun y hy hy' => by rw [if_neg hy, if_neg hy'])
  rcases hop with ⟨rfl, rfl⟩ | ⟨rfl, rfl⟩
  · refine wpAny_execs_cons (wpAny_AugAssign_Name (ldn F hi (wpAny_Constant_int (PyProof.Rows.iadd_int ?_)) hk hl3))
    refine stN F N (fun h' F' N' => ?_) hk hl3
    exact last _ _ F' N' rfl rfl rfl
  · refine wpAny_execs_cons (wpAny_AugAssign_Name (ldn F hi (wpAny_Constant_int (PyProof.Rows.isub_int ?_)) hk hl3))
    refine stN F N (fun h' F' N' => ?_) hk hl3
    exact last _ _ F' N' rfl rfl rfl

abbrev rtst (nA nS nI : Str) (p1 p2 p3 p4 p5 p6 p7 : Pos) (k : Nat) : Expr := .BoolOp .And [.Name nA p1, .Compare (.Subscript (.Name nS p2) (.Name nI p3) p4) [.Eq] [.Constant (.str " ") k p5] p6] p7

theorem rstrip_front {D Bi : Addr} {kd : Bool} {vs : List Value} {n₀ : Nat} {tb : Tok} {n : Int} {ti ta : Tok} {nA nS nI : Str} {p1 p2 p3 p4 p5 p6 p7 q1 q2 q3 q4 q5 q6 pw : Pos} {k1 k2 k7 : Nat} {Q : Flow → Shared → Prop}
    (F : Fr h₀ L s.heap m) (N : News h₀ L s.heap news) (hm : m nA = some (.int n ta)) (hs : m nS = some (.ref D)) (hi : m nI = some (.int 0 ti)) (hA : A.handled = none) (hD : (D, rowObj kd vs n₀) ∈ news) (hB : inner Bi tb ∈ news) (hG : ∀ v ∈ vs, Good Bi v) (hu : A.units + 64 < cLine) (hsz : vs.length < 2 ^ 62)
    (hne : nA ≠ nI) (hne2 : nS ≠ nA) (hne3 : nS ≠ nI)
    (hQ : ∀ (k : Nat) h' tk t1 t2 m', k ≤ lead (code vs) → (0 ≤ n → (k : Int) ≤ n) → (n - k = 0 ∨ (k = lead (code vs) ∧ lead (code vs) < vs.length)) → Fr h₀ L h' m' → News h₀ L h' news →
      m' nA = some (.int (n - k) t1) → m' nI = some (.int k t2) → (∀ y, y ≠ nA → y ≠ nI → m' y = m y) → Q .next { s with heap := h', toks := tk })
    (hX : lead (code vs) = vs.length → ¬ (0 ≤ n ∧ n ≤ vs.length) → ∀ h h' tk e m', Fr h₀ L h m' → News h₀ L h news → Heap.NewExc h h' e "IndexError" → E (.ref e) { s with heap := h', toks := tk })
    (hE : PassesOwn (model prog w) A (envOf name scope L a cd) E)
    (hk : scope.kind = .function) (hl1 : (envOf name scope L a cd).kindOf nA = some .local) (hl2 : (envOf name scope L a cd).kindOf nS = some .local) (hl3 : (envOf name scope L a cd).kindOf nI = some .local)
    (hd1 : (nA == ("__debug__" : Str)) = false) (hd2 : (nS == ("__debug__" : Str)) = false) (hd3 : (nI == ("__debug__" : Str)) = false) :
    wpAny (model prog w) A (exec (.While (rtst nA nS nI p1 p2 p3 p4 p5 p6 p7 k7) [.AugAssign (.Name nI q1) .Add (.Constant (.int 1) k1 q2) q3, .AugAssign (.Name nA q4) .Sub (.Constant (.int 1) k2 q5) q6] [] pw) (envOf name scope L a cd)) Q E s := by
  have hlen : (code vs).length = vs.length := code_length vs
  have hll := lead_le (code vs)
  refine While_inv (fun j m₁ news₁ => ∃ (k : Nat) (t1 t2 : Tok), j = vs.length - k ∧ news₁ = news ∧ k ≤ lead (code vs) ∧ (0 ≤ n → (k : Int) ≤ n) ∧ m₁ nA = some (.int (n - k) t1) ∧ m₁ nI = some (.int k t2) ∧ (∀ y, y ≠ nA → y ≠ nI → m₁ y = m y)) (n₀ := vs.length) F N
    ⟨0, ta, ti, by simp, rfl, by omega, by simp, by simpa using hm, by simpa using hi, fun _ _ _ => rfl⟩ ?_ hE
  rintro j m₁ news₁ h₁ tk₁ F₁ N₁ ⟨k, t1, t2, rfl, rfl, hk1, hk2, e1, e2, e3⟩
  refine rstrip_test (s := { s with heap := h₁, toks := tk₁ }) F₁ N₁ e1 ((e3 nS hne2 hne3).trans hs) e2 hA hD hB hG hu (fun _ => by omega) (by omega) ?_ ?_ ?_ hk hl1 hl2 hl3 hd1 hd2 hd3
  · intro h0
    rw [if_neg Bool.false_ne_true]
    exact hQ k h₁ tk₁ t1 t2 m₁ hk1 hk2 (.inl h0) F₁ N₁ e1 e2 e3
  · intro h0 tk v hv
    rw [Int.toNat_natCast] at hv
    have hkx : k < vs.length := by
      have := (List.getElem?_eq_some_iff.mp hv).1
      exact this
    have hcv := code_at hv
    by_cases hk3 : k < lead (code vs)
    · have hb := lead_blank hk3
      rw [hcv] at hb
      have hbl : isBlank v = true := by
        cases e : isBlank v with
        | true => rfl
        | false => rw [e] at hb; simp at hb
      rw [hbl]
      simp only [if_true]
      refine rstrip_turn (s := { s with heap := h₁, toks := tk }) (j := (k : Int) + 1) F₁ N₁ e1 e2 hne (.inl ⟨rfl, rfl⟩) ?_ hk hl1 hl3
      intro h' tk' u1 u2 m' F' N' g1 g2 g3
      refine WhileStep.intro (n' := vs.length - (k + 1)) F' N' (by omega) ⟨k + 1, u1, u2, rfl, rfl, by omega, by omega, ?_, ?_, fun y hy hy' => (g3 y hy hy').trans (e3 y hy hy')⟩
      · rw [g1]; congr 2; omega
      · rw [g2]; congr 2
    · have hk4 : k = lead (code vs) := by omega
      obtain ⟨c, c1, c2⟩ := lead_stop (l := (code vs)) (by omega)
      rw [← hk4, hcv] at c1
      have hbl : isBlank v = false := by
        cases e : isBlank v with
        | false => rfl
        | true => rw [e] at c1; simp at c1; exact absurd c1.symm c2
      rw [hbl, if_neg Bool.false_ne_true]
      exact hQ k h₁ tk t1 t2 m₁ hk1 hk2 (.inr ⟨hk4, by omega⟩) F₁ N₁ e1 e2 e3
  · intro h0 ho h' tk e hx
    have hk5 : vs.length ≤ k := by omega
    exact hX (by omega) (by omega) h₁ h' tk e m₁ F₁ N₁ hx

theorem rstrip_back {D Bi : Addr} {kd : Bool} {vs : List Value} {n₀ : Nat} {tb : Tok} {n : Int} {ti ta : Tok} {nA nS nI : Str} {p1 p2 p3 p4 p5 p6 p7 q1 q2 q3 q4 q5 q6 pw : Pos} {k1 k2 k7 : Nat} {Q : Flow → Shared → Prop}
    (F : Fr h₀ L s.heap m) (N : News h₀ L s.heap news) (hm : m nA = some (.int n ta)) (hs : m nS = some (.ref D)) (hi : m nI = some (.int ((vs.length : Int) - 1) ti)) (hA : A.handled = none) (hD : (D, rowObj kd vs n₀) ∈ news) (hB : inner Bi tb ∈ news) (hG : ∀ v ∈ vs, Good Bi v) (hu : A.units + 64 < cLine) (hsz : vs.length < 2 ^ 62)
    (hne : nA ≠ nI) (hne2 : nS ≠ nA) (hne3 : nS ≠ nI) (hst : n = 0 ∨ lead (code vs) < vs.length)
    (hQ : ∀ (j : Nat) h' tk t1 t2 m', j ≤ trail (code vs) → (n = 0 → j = 0) → (0 ≤ n → (j : Int) ≤ n) → (n - j = 0 ∨ j = trail (code vs)) → Fr h₀ L h' m' → News h₀ L h' news →
      m' nA = some (.int (n - j) t1) → m' nI = some (.int ((vs.length : Int) - 1 - j) t2) → (∀ y, y ≠ nA → y ≠ nI → m' y = m y) → Q .next { s with heap := h', toks := tk })
    (hE : PassesOwn (model prog w) A (envOf name scope L a cd) E)
    (hk : scope.kind = .function) (hl1 : (envOf name scope L a cd).kindOf nA = some .local) (hl2 : (envOf name scope L a cd).kindOf nS = some .local) (hl3 : (envOf name scope L a cd).kindOf nI = some .local)
    (hd1 : (nA == ("__debug__" : Str)) = false) (hd2 : (nS == ("__debug__" : Str)) = false) (hd3 : (nI == ("__debug__" : Str)) = false) :
    wpAny (model prog w) A (exec (.While (rtst nA nS nI p1 p2 p3 p4 p5 p6 p7 k7) [.AugAssign (.Name nI q1) .Sub (.Constant (.int 1) k1 q2) q3, .AugAssign (.Name nA q4) .Sub (.Constant (.int 1) k2 q5) q6] [] pw) (envOf name scope L a cd)) Q E s := by
  have hlen : (code vs).length = vs.length := code_length vs
  have hll := trail_le (code vs)
  have htr : n = 0 ∨ trail (code vs) < vs.length := hst.imp id fun h => by have := lead_trail (l := (code vs)) (by omega); omega
  refine While_inv (fun i m₁ news₁ => ∃ (j : Nat) (t1 t2 : Tok), i = vs.length - j ∧ news₁ = news ∧ j ≤ trail (code vs) ∧ (n = 0 → j = 0) ∧ (0 ≤ n → (j : Int) ≤ n) ∧ m₁ nA = some (.int (n - j) t1) ∧ m₁ nI = some (.int ((vs.length : Int) - 1 - j) t2) ∧ (∀ y, y ≠ nA → y ≠ nI → m₁ y = m y)) (n₀ := vs.length) F N
    ⟨0, ta, ti, by simp, rfl, by omega, fun _ => rfl, by simp, by simpa using hm, by simpa using hi, fun _ _ _ => rfl⟩ ?_ hE
  rintro i m₁ news₁ h₁ tk₁ F₁ N₁ ⟨j, t1, t2, rfl, rfl, hk1, hk0, hk2, e1, e2, e3⟩
  refine rstrip_test (s := { s with heap := h₁, toks := tk₁ }) F₁ N₁ e1 ((e3 nS hne2 hne3).trans hs) e2 hA hD hB hG hu ?_ (by omega) ?_ ?_ ?_ hk hl1 hl2 hl3 hd1 hd2 hd3
  · intro h0
    have hn0 : n ≠ 0 := fun q => h0 (by have := hk0 q; omega)
    have htr := htr.resolve_left hn0
    omega
  · intro h0
    rw [if_neg Bool.false_ne_true]
    exact hQ j h₁ tk₁ t1 t2 m₁ hk1 hk0 hk2 (.inl h0) F₁ N₁ e1 e2 e3
  · intro h0 tk v hv
    have hn0 : n ≠ 0 := fun q => h0 (by have := hk0 q; omega)
    have htr := htr.resolve_left hn0
    have hix : ((vs.length : Int) - 1 - j).toNat = vs.length - 1 - j := by omega
    rw [hix] at hv
    have hcv := code_at hv
    by_cases hk3 : j < trail (code vs)
    · have hb := trail_blank hk3
      rw [hlen, hcv] at hb
      have hbl : isBlank v = true := by
        cases e : isBlank v with
        | true => rfl
        | false => rw [e] at hb; simp at hb
      rw [hbl]
      simp only [if_true]
      refine rstrip_turn (s := { s with heap := h₁, toks := tk }) (j := (vs.length : Int) - 1 - j - 1) F₁ N₁ e1 e2 hne (.inr ⟨rfl, rfl⟩) ?_ hk hl1 hl3
      intro h' tk' u1 u2 m' F' N' g1 g2 g3
      refine WhileStep.intro (n' := vs.length - (j + 1)) F' N' (by omega) ⟨j + 1, u1, u2, rfl, rfl, by omega, fun q => absurd q hn0, by omega, ?_, ?_, fun y hy hy' => (g3 y hy hy').trans (e3 y hy hy')⟩
      · rw [g1]; congr 2; omega
      · rw [g2]; congr 2; omega
    · have hk4 : j = trail (code vs) := by omega
      obtain ⟨c, c1, c2⟩ := trail_stop (l := (code vs)) (by omega)
      rw [← hk4, hlen, hcv] at c1
      have hbl : isBlank v = false := by
        cases e : isBlank v with
        | false => rfl
        | true => rw [e] at c1; simp at c1; exact absurd c1.symm c2
      rw [hbl, if_neg Bool.false_ne_true]
      exact hQ j h₁ tk t1 t2 m₁ hk1 hk0 hk2 (.inr hk4) F₁ N₁ e1 e2 e3
  · intro h0 ho h' tk e hx
    omega
end
end Mine
namespace Mine

theorem stripB_le {l : List Nat} {n : Int} {a b : Nat} (h : stripB l n = some (a, b)) : a ≤ b ∧ b ≤ l.length := by
  have hll := lead_le l
  have htl := trail_le l
  unfold stripB at h
  split at h
  · split at h
    · injection h with h; injection h with h1 h2; omega
    · cases h
  · rename_i hne
    have := lead_trail (l := l) (by omega)
    injection h with h; injection h with h1 h2
    subst h1
    constructor
    · rw [← h2]
      split <;> omega
    · omega

theorem strip02 {prog : Program} {w : World} {A A₀ : Around} {E : Value → Shared → Prop} {s : Shared} {h₀ base : Heap} {L : Addr} {m mg mb : Str → Option Value} {news : List (Addr × Obj)} {p : Program} {loose : List Str} {mean : ExcName → Option Value} {Q : Value → Shared → Prop} {env : Env} {outer : List Env}
    {D Bi : Addr} {kd : Bool} {vs : List Value} {n₀ : Nat} {tb : Tok} {n : Int} {tn : Tok}
    (B : Below A₀ base outer h₀) (F : Fr h₀ L s.heap m) (X₀ : (Mine.hd02.heap_39 w.params).In h₀) (N : News h₀ L s.heap news) (T : Top p loose mean mg mb h₀) (hA : A.frames = some (env :: outer)) (hf : env.frame = some L) (hke : env.scope.kind = .function)
    (hroom : A.depth < recursionLimit) (hh : A.handled = none) (hu : ∀ e, (A.deeper e).units + 64 < cLine) (hsz : vs.length ≤ sizeLine) (hD : (D, rowObj kd vs n₀) ∈ news) (hB : inner Bi tb ∈ news) (hG : ∀ v ∈ vs, Good Bi v)
    (hQ : ∀ a b D' n' h' tk news', stripB (code vs) n = some (a, b) → Fr h₀ L h' m → News h₀ L h' news' → (∀ q ∈ news, q ∈ news') → (D', rowObj kd ((vs.drop a).take (b - a)) n') ∈ news' → (kd = true → ∀ q ∈ news, q.1 ≠ D') → Q (.ref D') { s with heap := h', toks := tk })
    (hE : ∀ g h' tk e, stripB (code vs) n = none → Fr h₀ L g m → g.UpToSlots h' → RaisedSN base g (env :: outer) e (.type "IndexError") news h' → E (.ref e) { s with heap := h', toks := tk }) :
    wpAny (model prog w) A (call (.ref 21) [.ref D, .int n tn]) Q E s := by
  have hsl : sizeLine = 16777216 := rfl
  refine wpAny_call (code_def (K := Mine.hd02.heap_39 w.params) B F X₀ N T hA hf hke rfl rfl hroom (BindsTo.of_eq rfl) (locs rfl) ?_ rfl rfl rfl (by decide))
  intro g L' h₁ FG F' N' B' X' T'
  dsimp only
  refine wpAny_execs_cons (wpAny_Assign_Name (wpAny_Constant_int (stN F' N' (fun h₂ F₂ N₂ => ?_))))
  dsimp only
  refine wpAny_execs_cons (rstrip_front F₂ N₂ rfl rfl rfl hh hD hB hG (hu _) (by omega) (by decide) (by decide) (by decide) ?_ ?_ (by passes_own) rfl rfl rfl rfl (by decide) (by decide) (by decide))
  · intro k h₃ tk₃ t1 t2 m₃ hk1 hk2 hk3 F₃ N₃ e1 e2 e3
    dsimp only
    refine wpAny_execs_cons (wpAny_Assign_Name (wpAny_BinOp (Call_ (nameX_B (cl := []) F₃ X' (topRead_of T') rfl boot_len (by decide) ?_))))
    refine PyProof.Rows.callWith_builtin1 (args_cons (ld F₃ ((e3 _ (by decide) (by decide)).trans rfl) (args_nil ?_)))
    refine row_len (N₃ _ hD).1 hsz (fun t₃ tk₃' => wpAny_Constant_int (PyProof.Rows.sub_int (stN F₃ N₃ (fun h₄ F₄ N₄ => ?_))))
    dsimp only
    refine wpAny_execs_cons (rstrip_back F₄ N₄ ((if_neg (by decide)).trans e1) ((if_neg (by decide)).trans ((e3 _ (by decide) (by decide)).trans rfl)) rfl hh hD hB hG (hu _) (by omega) (by decide) (by decide) (by decide) (hk3.imp id fun h => h.2) ?_ (by passes_own) rfl rfl rfl rfl (by decide) (by decide) (by decide))
    intro j h₅ tk₅ u1 u2 m₅ hj0 hj1 hj2 hj3 F₅ N₅ g1 g2 g3
    have hlen : (code vs).length = vs.length := code_length vs
    have hll := lead_le (code vs)
    have htl := trail_le (code vs)
    have hb : stripB (code vs) n = some (k, vs.length - j) := by
      unfold stripB
      rw [hlen]
      by_cases hl : lead (code vs) = vs.length
      · rw [if_pos hl]
        have hnk : n - k = 0 := hk3.resolve_right (by omega)
        have := hj1 hnk
        rw [if_pos (by omega)]
        congr 2 <;> omega
      · rw [if_neg hl]
        dsimp only
        have ea : (if n < 0 then lead (code vs) else min (lead (code vs)) n.toNat) = k := by
          split <;> omega
        rw [ea]
        have eb : (if n < 0 then trail (code vs) else min (trail (code vs)) (n.toNat - k)) = j := by
          split <;> omega
        rw [eb]
    have hab := stripB_le hb
    rw [hlen] at hab
    dsimp only
    refine wpAny_execs_cons (wpAny_Return_some (Subscript_ (ld F₅ ((g3 _ (by decide) (by decide)).trans ((if_neg (by decide)).trans ((e3 _ (by decide) (by decide)).trans rfl))) ?_)))
    refine wpAny_Slice (evalPart_some_step (ld F₅ ((g3 _ (by decide) (by decide)).trans ((if_neg (by decide)).trans e2)) ?_))
    refine evalPart_some_step (wpAny_BinOp (ld F₅ g2 (wpAny_Constant_int (PyProof.Rows.add_int ?_))))
    refine evalPart_none_step ?_
    have ei : (vs.length : Int) - 1 - j + 1 = ((vs.length - j : Nat) : Int) := by omega
    rw [ei]
    refine row_slice (s := { s with heap := h₅, toks := _ }) F₅ N₅ hD hab.1 hab.2 ?_ rfl (fun _ => rfl) hsz
    intro D' n' h₆ news' F₆ N₆ hsub hD' hne
    refine leaveK_ F₆ N₆ fun F₇ N₇ => ?_
    exact hQ k (vs.length - j) D' n' h₆ _ news' hb F₇ N₇ hsub hD' hne
  · intro hl hn h h' tk e m' F₃ N₃ hx
    dsimp only
    refine leave_newS B' hx F₃ N₃ fun h₄ R _ hup => ?_
    refine hE g h₄ tk e ?_ FG hup R
    unfold stripB
    rw [code_length vs, if_pos hl, if_neg hn]
end Mine
/- _law_told: a try in a frame above the law's frame -/
namespace Mine
section
variable {prog : Program} {w : World} {A₀ A : Around} {s : Shared} {base h₀ : Heap} {L : Addr} {m : Str → Option Value} {env : Env} {news : List (Addr × Obj)} {K : Frag} {p : Program} {loose : List Str} {mean : ExcName → Option Value} {mg mb : Str → Option Value}
    {R : Result → Shared → Prop} {name qual : Str} {params : Arguments} {body : List Stmt} {scope : Scope} {dV kV doc pm cdv ct oc : Value} {an od : Option Addr} {osl : Array (Option Value)} {f : Addr} {args : Args} {binds : List (Str × Value)}

theorem code_defS0X (B : Below A₀ base [] h₀) (F : Fr h₀ L s.heap m) (X₀ : K.In h₀) (N : News h₀ L s.heap news) (T : Top p loose mean mg mb h₀) (hA : A.frames = some [env]) (hf : env.frame = some L) (hke : env.scope.kind = .function)
    (ho : K.lookup f = some ⟨oc, od, .func (fnOf name qual params body scope dV kV doc pm an cdv ct), osl⟩) (hcd : codeIn K cdv qual = true) (hroom : A.depth < recursionLimit)
    (hbind : BindsTo s (fnOf name qual params body scope dV kV doc pm an cdv ct) args binds) (hloc : ∀ y ∈ binds, scope.names.lookup y.1 = some .local)
    (h : ∀ g L' h₁, Fr h₀ L g m → Fr g L' h₁ (fun y => binds.reverse.lookup y) → News g L' h₁ news → Below A base [env] g → K.In g → Top p loose mean mg mb g → KtsDicts ([env].filterMap (·.frame)) g →
      wpAny (model prog w) (A.deeper (envOf qual scope L' f cdv)) (execs body (envOf qual scope L' f cdv))
        (fun fl s' => LeaveS0 ([env].filterMap (·.frame)) h₀ L m g R (match fl with | .ret v => v | _ => .none) s')
        (fun e s' => wpAny (model prog w) (A.deeper (envOf qual scope L' f cdv)) (leaving (envOf qual scope L' f cdv) e) (fun _ s'' => R (.error e) s'') (fun e' s'' => R (.error e') s'') s')
        { s with heap := h₁, toks := s.toks + binds.length })
    (hco : scope.isCoroutine = false) (hgen : scope.isGenerator = false) (hk : scope.kind = .function)
    (hcell : ∀ x ∈ scope.names, x.2 ≠ .cell) : codeAny (model prog w) A (.call (.ref f) args) R s := by
  have X := X₀.keeps F.keep
  have hfm : [env].filterMap (·.frame) = [L] := by simp [hf]
  refine codeAny_call_def (fd := fnOf name qual params body scope dV kV doc pm an cdv ct) (body := body) (binds := binds) hroom (X _ _ ho) rfl (T.nolimit.keeps F.keep) (codeRec_of X hcd) rfl hbind hcell hloc (fun h₁ hns hk₁ => ?_) hco hgen hk
  obtain ⟨FG, BG, st, _⟩ := groundX (R := R) B F N hA hf hke
  obtain ⟨oL, es, ep, hLg, hLd, hLk, hLf⟩ := FG.ns
  refine wpAny_mono (h _ s.heap.objs.size h₁ FG ⟨hns, fun b o e => hk₁ b o (of_hideAll _ e), Nat.le_of_eq (hideAll_size _ _)⟩
    (fun p hp => ⟨hk₁ _ _ (N p hp).1, Nat.ne_of_lt (Heap.lt_size (N p hp).1), hideAll_none _ (List.mem_map_of_mem hp)⟩) BG (X₀.keeps st) (T.keeps st) (fun b hb => by
      rw [hfm] at hb
      rcases List.mem_cons.mp hb with rfl | z
      · exact ⟨oL, es, ep, hLg, hLd⟩
      · cases z)) (fun fl s' hl => ?_) fun _ _ y => y
  obtain ⟨g', L', m', news', T', F', N', k⟩ := hl
  have nL₀ : h₀.get? L = none := kts_self F
  obtain ⟨sl, hs⟩ := T'.up hLg
  refine k ⟨⟨_, es, ep, F'.keep _ _ hs, hLd, hLk, hLf⟩, fun b o e => F'.keep b o (T'.other b o (st b o e) (fun q => by
    rw [hfm] at q
    rcases List.mem_cons.mp q with z | z
    · rw [z, nL₀] at e
      cases e
    · cases z)), F.above⟩ fun p hp => ⟨(N' p hp).1, fun q => ?_, ?_⟩
  · have := (N' p hp).2.2; rw [q, hs] at this; cases this
  · cases q : h₀.get? p.1 with
    | none => rfl
    | some o =>
      obtain ⟨sl', hs'⟩ := T'.up (st _ _ q)
      have := (N' p hp).2.2
      rw [hs'] at this
      cases this
end

theorem told02 {prog : Program} {w : World} {A : Around} {E : Value → Shared → Prop} {s : Shared} {h₀ : Heap} {L : Addr} {m mg mb : Str → Option Value} {news : List (Addr × Obj)} {p : Program} {loose : List Str} {mean : ExcName → Option Value} {Q : Value → Shared → Prop} {env : Env}
    {D Bi : Addr} {kd : Bool} {vs : List Value} {n₀ : Nat} {tb : Tok} {n : Int} {tn : Tok}
    (B : Below callerA h₀ [] h₀) (F : Fr h₀ L s.heap m) (X₀ : (Mine.hd02.heap_39 w.params).In h₀) (N : News h₀ L s.heap news) (T : Top p loose mean mg mb h₀) (hA : A.frames = some [env]) (hf : env.frame = some L) (hke : env.scope.kind = .function)
    (hroom : A.depth + 1 < recursionLimit) (hh : A.handled = none) (hu : ∀ e e', ((A.deeper e).deeper e').units + 64 < cLine) (hsz : vs.length ≤ sizeLine) (hD : (D, rowObj kd vs n₀) ∈ news) (hB : inner Bi tb ∈ news) (hG : ∀ v ∈ vs, Good Bi v)
    (hQ : ∀ a b D' n' h' tk news', stripB (code vs) n = some (a, b) → Fr h₀ L h' m → News h₀ L h' news' → (∀ q ∈ news, q ∈ news') → (D', rowObj kd ((vs.drop a).take (b - a)) n') ∈ news' → (kd = true → ∀ q ∈ news, q.1 ≠ D') → Q (.ref D') { s with heap := h', toks := tk })
    (hX : ∀ h' tk t, stripB (code vs) n = none → Fr h₀ L h' m → News h₀ L h' news → Q (.str (Str.ofString "IndexError") t) { s with heap := h', toks := tk }) :
    wpAny (model prog w) A (call (.ref 28) [.ref D, .int n tn]) Q E s := by
  refine wpAny_call (code_defS0X (K := Mine.hd02.heap_39 w.params) B F X₀ N T hA hf hke rfl rfl (by omega) (BindsTo.of_eq rfl) (locs rfl) ?_ rfl rfl rfl (by decide))
  intro g L' h₁ FG F' N' B' X' T' D'
  dsimp only
  refine wpAny_execs_cons (wpAny_Try_except (wpAny_execs_cons (wpAny_Return_some ?_)))
  refine Call_ (nameX_K (cl := []) F' X' (topRead_of T') rfl ?_)
  refine callWith_K X' (by rfl) (args_cons ?_)
  refine ld F' rfl (args_cons (ld F' rfl (args_nil ?_)))
  refine ⟨X'.keeps F'.keep, ?_⟩
  refine strip02 B' F' X' N' T' (Around.frames_deeper hA) rfl rfl hroom hh (hu _) hsz hD hB hG ?_ ?_
  · intro a b D₁ n' h₂ tk news' hb F₂ N₂ hsub hD₁ hne
    refine leaveS0_ F₂ N₂ .refl fun F₃ N₃ => ?_
    exact hQ a b D₁ n' h₂ tk news' hb F₃ N₃ hsub hD₁ hne
  · intro G h₂ tk e hb FG₂ hup R
    refine caught_SN0 (KF := Mine.hd02.heap_39 w.params) R FG₂ B' hup X₀ T D' .refl rfl PyProof.Rows.Boot.«IndexError» (by decide) PySem.F.isExc_IndexError PySem.F.notTuple_IndexError (by rw [isSubtype_type]; kernel_rfl) (fun h₃ g₃ T₃ F₃ N₃ _ _ _ _ => ?_) rfl rfl (by decide) ?_
    · refine wpAny_execs_cons (wpAny_Return_some (Constant_str ?_))
      refine leaveS0_ F₃ N₃ T₃ fun F₄ N₄ => ?_
      exact hX h₃ _ _ hb F₄ N₄
    · passes_own
end Mine
/- the plain side of 02: the places that are no blanks -/
namespace Mine
def solidN (l : List Nat) : List Nat := (List.range l.length).filter fun i => l[i]? != some 32
theorem solidN_nil {l : List Nat} (h : lead l = l.length) : solidN l = [] := by
  unfold solidN
  rw [List.filter_eq_nil_iff]
  intro i hi
  rw [List.mem_range] at hi
  rw [lead_blank (by omega)]
  simp
theorem solidN_head {l : List Nat} (h : lead l < l.length) : ∃ r, solidN l = lead l :: r := by
  obtain ⟨c, h1, h2⟩ := lead_stop h
  unfold solidN
  have e : l.length = lead l + ((l.length - lead l - 1) + 1) := by omega
  rw [e, List.range_add, List.filter_append, List.filter_eq_nil_iff.mpr (by
    intro i hi
    rw [List.mem_range] at hi
    rw [lead_blank hi]
    simp), List.nil_append, List.range_succ_eq_map, List.map_cons, List.filter_cons, if_pos (by
      rw [Nat.add_zero, h1]; simpa using h2)]
  exact ⟨_, rfl⟩
theorem solidN_last {l : List Nat} (h : lead l < l.length) : ∃ r, solidN l = r ++ [l.length - 1 - trail l] := by
  have ht := lead_trail h
  obtain ⟨c, h1, h2⟩ := trail_stop (l := l) (by omega)
  unfold solidN
  have e : l.length = ((l.length - 1 - trail l) + 1) + trail l := by omega
  have e2 : (List.range l.length) = List.range (((l.length - 1 - trail l) + 1) + trail l) := by rw [← e]
  rw [e2, List.range_add, List.filter_append, List.range_succ, List.filter_append]
  have z : List.filter (fun i => l[i]? != some 32) (List.map (fun x => l.length - 1 - trail l + 1 + x) (List.range (trail l))) = [] := by
    rw [List.filter_eq_nil_iff]
    intro i hi
    obtain ⟨j, hj, rfl⟩ := List.mem_map.mp hi
    rw [List.mem_range] at hj
    have := trail_blank (l := l) (j := trail l - 1 - j) (by omega)
    rw [show l.length - 1 - (trail l - 1 - j) = l.length - 1 - trail l + 1 + j by omega] at this
    rw [this]
    simp
  rw [z, List.append_nil, List.filter_cons, if_pos (by rw [h1]; simpa using h2), List.filter_nil]
  exact ⟨_, rfl⟩
theorem solidN_length (l : List Nat) : (solidN l).length ≤ l.length := by
  unfold solidN
  exact Nat.le_trans (List.length_filter_le _ _) (by simp)
end Mine
/- _law_due: the places that are no blanks -/
namespace Mine
def fnBody (p : Program) (i : Nat) : List Stmt := match p.main.body[i]? with
  | some (.FunctionDef _ _ b _ _ _ _ _ _ _) => b
  | _ => []
def fnScope (p : Program) (i : Nat) : Scope := match p.main.body[i]? with
  | some (.FunctionDef _ _ _ _ _ _ s _ _ _) => s
  | _ => default
def dueB : List Stmt := fnBody PySem.Challenge.pw_dm0204_02 4
def dueS : Scope := fnScope PySem.Challenge.pw_dm0204_02 4
abbrev dueE (L fa : Addr) (cd : Value) : Env := envOfC "_law_due" dueS L fa cd
theorem keeps_refl (s : Shared) : Keeps s s := ⟨s.heap, s.toks, rfl, fun _ _ e => e⟩

def keepSolid (vs : List Value) : Value → Bool
  | .int a _ => (code vs)[a.toNat]? != some 32
  | _ => false
def solidI (vs : List Value) : List Int := (solidN (code vs)).map fun (i : Nat) => (i : Int)
theorem solid_filter (vs : List Value) : (((List.range vs.length).map fun (i : Nat) => 0 + (i : Int)).filter fun a => (code vs)[a.toNat]? != some 32) = solidI vs := by
  unfold solidI solidN
  rw [List.filter_map, code_length]
  have e1 : ((fun a : Int => (code vs)[a.toNat]? != some 32) ∘ fun (i : Nat) => 0 + (i : Int)) = fun i => (code vs)[i]? != some 32 := by
    funext i
    simp only [Function.comp]
    rw [show (0 + (i : Int)).toNat = i by omega]
  rw [e1]
  simp

section
variable {prog : Program} {w : World} {A : Around} {E : Value → Shared → Prop} {s : Shared} {h₀ : Heap} {L fa : Addr} {m mg mb : Str → Option Value} {cd : Value} {Q : Flow → Shared → Prop} {p : Program} {loose : List Str} {news : List (Addr × Obj)}
  {R Bi : Addr} {vs : List Value} {nR : Nat} {tb : Tok} {oc : Obj}

/-- solid = [i for i in range(len(row)) if row[i] != ' '] -/
theorem st_solid (F : Fr h₀ L s.heap m) (N : News h₀ L s.heap news) (X : (Mine.hd02.heap_39 w.params).In h₀) (T : TopRead p loose mg mb h₀)
    (hc : (L + 1, oc) ∈ news) (hd : oc.data = .cell (some (.ref R))) (hR : (R, rowObj true vs nR) ∈ news) (hB : inner Bi tb ∈ news) (hG : ∀ v ∈ vs, Good Bi v) (hx : vs.length ≤ 300) (hh : A.handled = none) (hu : A.units + 64 < cLine)
    (k : ∀ h' tk D hs m' ep, Fr h₀ L h' m' → News h₀ L h' ((D, listOf (List.toArray hs) ep) :: news) → IntsAre hs (solidI vs) → m' "solid" = some (.ref D) → (∀ y, y ≠ ("solid" : Str) → m' y = m y) → wpAny (model prog w) A (execs (dueB.drop 1) (dueE L fa cd)) Q E { s with heap := h', toks := tk }) :
    wpAny (model prog w) A (execs dueB (dueE L fa cd)) Q E s := by
  have hsl : sizeLine = 16777216 := rfl
  refine wpAny_execs_cons ?_
  refine wpAny_Assign_ListComp_free (cl := [("row", L + 1)]) (keepSolid vs) (fun v y => y = v) rfl rfl (by decide) rfl (by decide) rfl rfl rfl ?_
  refine Call_ (nameX_B F X T rfl boot_range (by decide) ?_)
  refine PyProof.Rows.callWith_type1 (args_cons (Call_ (nameX_B F X T rfl boot_len (by decide) ?_)))
  refine PyProof.Rows.callWith_builtin1 (args_cons (nameX_C N rfl hc hd (args_nil ?_)))
  refine row_len (N _ hR).1 (by omega) (fun t₀ tk₀ => args_nil ?_)
  refine range_iter (N := vs.length) (by omega) (fun I h₁ tk₁ st₁ hI hI2 it₁ => ?_)
  refine ⟨I, _, _, _, _, _, m, rfl, walks_lt (Walks.range hh I 0 1 vs.length), by omega, it₁, ?_, ?_, (F.ns.keeps st₁), ⟨?_, ?_⟩, ?_⟩
  · intro b hb
    rcases List.mem_cons.mp hb with rfl | hb
    · exact hI2
    · cases hb
  · intro hb
    rcases List.mem_cons.mp hb with hb | hb
    · obtain ⟨oL, _, _, hL, _⟩ := F.ns
      have hb' : L = I := hb
      rw [hb', hI] at hL
      cases hL
    · cases hb
  · intro C i v s₃ m₃ E' hC hv hn hvx kp _
    obtain ⟨hlt, t, rfl⟩ := hv
    have st₃ : ∀ b o, s.heap.get? b = some o → s₃.heap.get? b = some o := stays_but st₁ (fun b hb => by rcases List.mem_cons.mp hb with rfl | hb; exact hI; cases hb) kp
    have hcell := st₃ _ _ (N _ hc).1
    refine wpAny_tests_one (wpAny_isTrue_Compare1 (Subscript_ (wpAny_Name (wpAny_loadName_cell rfl rfl rfl ⟨oc, hcell, hd⟩ ?_))))
    refine wpAny_Name (wpAny_loadName_local rfl rfl hn hvx ?_)
    refine row_item hh (st₃ _ _ (N _ hR).1) (by omega) (by omega) (fun v hv => ?_) (fun hc => by omega)
    have e : (0 + (i : Int) * 1) = i := by omega
    rw [e, Int.toNat_natCast] at hv
    have g := hG v (List.mem_of_getElem? hv)
    obtain ⟨as, ra⟩ := good_reads g (st₃ _ _ (N _ hB).1)
    refine Constant_str (ne_dataH (s := { s₃ with toks := _ }) ra (.str _ _) (good_shaped g) (by decide +kernel) hu (wpAny_truthy_bool ⟨?_, s₃.heap, _, rfl, fun _ _ e => e⟩))
    rw [good_eqv g, e]
    simp only [keepSolid, Int.toNat_natCast]
    rw [code_at hv]
    cases isBlank v <;> simp
  · intro C i v s₃ m₃ E' _ hv _ hn hvx kp _
    exact wpAny_Name (wpAny_loadName_local rfl rfl hn hvx ⟨rfl, keeps_refl _⟩)
  · intro D h' tk ys us hD hlD hpD hlen' hP hF hn hk
    obtain ⟨ep, hpD⟩ := hpD
    have st' : ∀ b o, b ≠ L → s.heap.get? b = some o → h'.get? b = some o := fun b o hb e => hk b o hb (fun hb => by rcases List.mem_cons.mp hb with rfl | hb; (rw [hI] at e; cases e); cases hb) (st₁ b o e)
    have hDs : s.heap.get? D = none := by
      cases e : s.heap.get? D with
      | none => rfl
      | some o => have := st₁ D o e; rw [hD] at this; cases this
    have hbase : ∀ b o, h₀.get? b = some o → b ≠ L := fun b o e hb => absurd (Heap.lt_size e) (Nat.not_lt.mpr (hb ▸ F.above))
    have F' : Fr h₀ L h' (fun z => if z = Str.ofString "solid" then some (Value.ref D) else m z) := ⟨hn, fun b o e => st' b o (hbase b o e) (F.keep b o e), F.above⟩
    have N' : News h₀ L h' news := fun q hq => ⟨st' _ _ (N q hq).2.1 (N q hq).1, (N q hq).2.1, (N q hq).2.2⟩
    have eys := paired_eq hF
    have hI' := ints_filter (p := keepSolid vs) (q := fun a => (code vs)[a.toNat]? != some 32) (fun _ _ => rfl) (ints_of_range (a := 0) hlen' (fun j v hj => (hP j v hj).2))
    rw [solid_filter, ← eys] at hI'
    refine k h' tk D ys.toList _ ep F' (news_add F N' (by rw [Array.toArray_toList]; exact hpD) hDs) hI' rfl (fun y hy => if_neg hy)
end
end Mine
/- _law_due: where all are blanks -/
namespace Mine
section
variable {prog : Program} {w : World} {A : Around} {E : Value → Shared → Prop} {s : Shared} {h₀ : Heap} {L fa : Addr} {m mg mb : Str → Option Value} {cd : Value} {Q : Flow → Shared → Prop} {p : Program} {loose : List Str} {news : List (Addr × Obj)}
  {R Bi : Addr} {vs : List Value} {nR : Nat} {tb : Tok} {oc : Obj} {n : Int} {tn : Tok}

/-- if solid == []: .. -/
theorem st_blank {D : Addr} {hs : List Value} {ep : Nat} (F : Fr h₀ L s.heap m) (N : News h₀ L s.heap ((D, listOf (List.toArray hs) ep) :: news)) (X : (Mine.hd02.heap_39 w.params).In h₀) (T : TopRead p loose mg mb h₀)
    (hc : (L + 1, oc) ∈ news) (hd : oc.data = .cell (some (.ref R))) (hR : (R, rowObj true vs nR) ∈ news) (hx : vs.length ≤ 300) (hu : A.units + 64 < cLine)
    (hI : IntsAre hs (solidI vs)) (hm : m "solid" = some (.ref D)) (hn : m "amount" = some (.int n tn))
    (kX : lead (code vs) = vs.length → ¬ (0 ≤ n ∧ n ≤ vs.length) → ∀ h' tk t, Fr h₀ L h' m → News h₀ L h' news → Q (.ret (.str (Str.ofString "IndexError") t)) { s with heap := h', toks := tk })
    (kD : lead (code vs) = vs.length → (0 ≤ n ∧ n ≤ vs.length) → ∀ D' h' tk, Fr h₀ L h' m → News h₀ L h' ((D', rowObj true (vs.drop n.toNat) 0) :: news) → (∀ q ∈ news, q.1 ≠ D') → Q (.ret (.ref D')) { s with heap := h', toks := tk })
    (k : lead (code vs) < vs.length → ∀ h', Fr h₀ L h' m → News h₀ L h' ((D, listOf (List.toArray hs) ep) :: news) → wpAny (model prog w) A (execs (dueB.drop 2) (dueE L fa cd)) Q E { s with heap := h' }) :
    wpAny (model prog w) A (execs (dueB.drop 1) (dueE L fa cd)) Q E s := by
  have hll := lead_le (code vs)
  rw [code_length] at hll
  have hsl : sizeLine = 16777216 := rfl
  refine wpAny_execs_cons (wpAny_If (wpAny_isTrue_Compare1 (nameX_L F hm (List_ (args_nil ?_)))))
  refine newList_N F N (fun h₁ F₁ N₁ => ?_)
  refine eq_intsK (News.isList N₁ (.tail _ (.head _))) hI (News.isList N₁ (.head _)) .nil hu (wpAny_truthy_bool ?_)
  by_cases hl : lead (code vs) = vs.length
  · have e : solidI vs = [] := by unfold solidI; rw [solidN_nil (by rw [hl, code_length])]; rfl
    rw [e]
    refine wpAny_execs_cons (wpAny_If (isTrue_or (wpAny_isTrue_Compare1 (nameX_L F₁ hn (wpAny_Constant_int (PyProof.Rows.lt_int (wpAny_truthy_bool ?_)))))))
    by_cases h0 : n < 0
    · rw [decide_eq_true h0]
      simp only [if_true]
      refine wpAny_execs_cons (wpAny_Return_some (Constant_str ?_))
      exact kX hl (by omega) h₁ _ _ F₁ (fun q hq => N₁ q (.tail _ (.tail _ hq)))
    · rw [decide_eq_false h0]
      simp only [Bool.false_eq_true, if_false]
      refine isTrue_or (wpAny_isTrue_Compare1 (nameX_L F₁ hn (Call_ (nameX_B F₁ X T rfl boot_len (by decide) ?_))))
      refine PyProof.Rows.callWith_builtin1 (args_cons (nameX_C N₁ rfl (.tail _ (.tail _ hc)) hd (args_nil ?_)))
      refine row_len (N₁ _ (.tail _ (.tail _ hR))).1 (by omega) (fun t₀ tk₀ => PyProof.Rows.gt_int (wpAny_truthy_bool ?_))
      by_cases h1 : n > vs.length
      · rw [decide_eq_true h1]
        simp only [if_true]
        refine wpAny_execs_cons (wpAny_Return_some (Constant_str ?_))
        exact kX hl (by omega) h₁ _ _ F₁ (fun q hq => N₁ q (.tail _ (.tail _ hq)))
      · rw [decide_eq_false h1]
        simp only [Bool.false_eq_true, if_false]
        refine isTrue_or_nil ?_
        simp only [Bool.false_eq_true, if_false]
        refine wpAny_execs_nil ?_
        refine wpAny_execs_cons (wpAny_Return_some (Subscript_ (nameX_C N₁ rfl (.tail _ (.tail _ hc)) hd ?_)))
        refine wpAny_Slice (evalPart_some_step (nameX_L F₁ hn (evalPart_none_step (evalPart_none_step ?_))))
        refine kmk_slice (s := { s with heap := h₁, toks := _ }) F₁ N₁ (row_isList (N₁ _ (.tail _ (.tail _ hR))).1) (.int _ _) .none (fun D₂ h₂ F₂ N₂ l₂ => ?_) rfl (fun _ => rfl) (by simp only [List.size_toArray]; omega)
        rw [show n = ((n.toNat : Nat) : Int) by omega, slicePick_from vs.toArray n.toNat (by simp; omega)] at N₂
        refine kD hl (by omega) D₂ h₂ _ F₂ (fun q hq => ?_) (fun q hq => Nat.ne_of_lt (l₂ q (.tail _ (.tail _ hq))))
        rcases List.mem_cons.mp hq with rfl | hq
        · have := N₂ _ (.head _)
          simp only [Int.toNat_natCast] at this ⊢
          exact this
        · exact N₂ q (.tail _ (.tail _ (.tail _ hq)))
  · obtain ⟨r, e⟩ := solidN_head (l := code vs) (by rw [code_length]; omega)
    have e2 : solidI vs = (lead (code vs) : Int) :: r.map fun (i : Nat) => (i : Int) := by unfold solidI; rw [e]; rfl
    rw [e2]
    refine wpAny_execs_nil ?_
    exact k (by omega) h₁ F₁ (fun q hq => N₁ q (.tail _ hq))
end
end Mine
/- _law_due: where there are solid things -/
namespace Mine
section
variable {prog : Program} {w : World} {A : Around} {E : Value → Shared → Prop} {s : Shared}
/-- the iterator of range(a, b) -/
theorem range_iter2 {a b : Nat} {t u : Tok} {Q : Value → Shared → Prop} (hab : a ≤ b) (hb : (b : Int) < 2 ^ 62)
    (k : ∀ I h' tk, (∀ b o, s.heap.get? b = some o → h'.get? b = some o) → s.heap.get? I = none → I < h'.objs.size → IsRangeIter h' I ((a : Int) + ((0 : Nat) : Int) * 1) (((b - a : Nat) : Int) - ((0 : Nat) : Int)) 1 → Q (.ref I) { s with heap := h', toks := tk }) :
    wpAny (model prog w) A (call (.type "range") [.int (a : Int) t, .int (b : Int) u]) (fun xv s₁ => wpAny (model prog w) A (pyIter xv) Q E s₁) E s := by
  refine call_range_2 (wpAny_pyIter_range (IsRange.new _ _ _ _ _ _ _) (small_one (by omega) (by omega) (by omega) hb) ?_)
  have e : Builtin.Range.rangeSize (a : Int) (b : Int) 1 = ((b - a : Nat) : Int) := by rw [rangeSize_one]; split <;> omega
  rw [e]
  refine k _ _ _ (fun b o e => Heap.get?_push_of_some _ (Heap.get?_push_of_some _ e)) (fresh_size (by rw [Heap.size_push]; exact Nat.le_succ _)) (by simp only [Heap.size_push]; exact Nat.lt_succ_self _) ?_
  have := Heap.get?_push_size (s.heap.push { cls := .type "range", data := .fields #[.int (a : Int) t, .int (b : Int) u, .int 1 s.toks] }) (o := { cls := .type "range_iterator", data := .fields #[rawInt (a : Int), rawInt ((b - a : Nat) : Int), rawInt 1] }) rfl
  simpa using this
end

theorem picked {vs : List Value} {a c : Nat} : ∀ {us ys : List Value}, us.length = c → a + c ≤ vs.length → (∀ j v, us[j]? = some v → ∃ t, v = Value.int ((a : Int) + (j : Nat) * 1) t) → Paired (fun v y => ∃ i t, v = Value.int i t ∧ vs[i.toNat]? = some y) us ys → ys = (vs.drop a).take c := by
  intro us
  induction us generalizing a c with
  | nil =>
    intro ys hl _ _ hP
    cases hP
    simp at hl
    subst hl
    simp
  | cons u us ih =>
    intro ys hl ha hj hP
    cases hP with
    | cons h r =>
      rename_i y ys
      obtain ⟨i, t, rfl, hy⟩ := h
      obtain ⟨t', e⟩ := hj 0 _ rfl
      injection e with e1 e2
      have ei : i.toNat = a := by omega
      rw [ei] at hy
      have hc : c = (c - 1) + 1 := by simp at hl; omega
      have := ih (a := a + 1) (c := c - 1) (ys := ys) (by simp at hl; omega) (by omega) (fun j v hv => by
        obtain ⟨t, e⟩ := hj (j + 1) v (by simpa using hv)
        exact ⟨t, e.trans (by congr 1; omega)⟩) r
      obtain ⟨hlt, hya⟩ := List.getElem?_eq_some_iff.mp hy
      rw [this, hc, List.drop_eq_getElem_cons hlt, List.take_succ_cons, hya]
      simp

section
variable {prog : Program} {w : World} {A : Around} {E : Value → Shared → Prop} {s : Shared} {h₀ : Heap} {L fa : Addr} {m mg mb : Str → Option Value} {cd : Value} {Q : Flow → Shared → Prop} {p : Program} {loose : List Str} {news : List (Addr × Obj)}
  {R Bi : Addr} {vs : List Value} {nR : Nat} {tb : Tok} {oc : Obj} {n : Int} {tn : Tok}

/-- return [row[i] for i in range(first, len(row) - last)] -/
theorem st_run {a c : Nat} {t1 t2 : Tok} (F : Fr h₀ L s.heap m) (N : News h₀ L s.heap news) (X : (Mine.hd02.heap_39 w.params).In h₀) (T : TopRead p loose mg mb h₀)
    (hc : (L + 1, oc) ∈ news) (hd : oc.data = .cell (some (.ref R))) (hR : (R, rowObj true vs nR) ∈ news) (hx : vs.length ≤ 300) (hh : A.handled = none)
    (h1 : m "first" = some (.int a t1)) (h2 : m "last" = some (.int c t2)) (hac : a + c ≤ vs.length)
    (kD : ∀ D' n' h' tk, Fr h₀ L h' m → News h₀ L h' ((D', rowObj true ((vs.drop a).take (vs.length - c - a)) n') :: news) → (∀ q ∈ news, q.1 ≠ D') → Q (.ret (.ref D')) { s with heap := h', toks := tk }) :
    wpAny (model prog w) A (execs (dueB.drop 7) (dueE L fa cd)) Q E s := by
  have hsl : sizeLine = 16777216 := rfl
  refine wpAny_execs_cons (wpAny_Return_some ?_)
  refine wpAny_ListComp_free (cl := [("row", L + 1)]) (fun _ => true) (fun v y => ∃ i t, v = Value.int i t ∧ vs[i.toNat]? = some y) rfl (by decide) rfl (by decide) rfl ?_
  refine Call_ (nameX_B F X T rfl boot_range (by decide) ?_)
  refine PyProof.Rows.callWith_type1 (args_cons (nameX_L F h1 (args_cons (wpAny_BinOp (Call_ (nameX_B F X T rfl boot_len (by decide) ?_))))))
  refine PyProof.Rows.callWith_builtin1 (args_cons (nameX_C N rfl hc hd (args_nil ?_)))
  refine row_len (N _ hR).1 (by omega) (fun t₀ tk₀ => nameX_L F h2 (PyProof.Rows.sub_int (args_nil ?_)))
  rw [show (vs.length : Int) - c = ((vs.length - c : Nat) : Int) by omega]
  refine range_iter2 (a := a) (b := vs.length - c) (by omega) (by omega) (fun I h₁ tk₁ st₁ hI hI2 it₁ => ?_)
  refine ⟨I, _, _, _, _, _, rfl, walks_lt (Walks.range hh I a 1 (vs.length - c - a)), by omega, it₁, ?_, ⟨?_, ?_⟩, ?_⟩
  · intro b hb
    rcases List.mem_cons.mp hb with rfl | hb
    · exact hI2
    · cases hb
  · intro C i v s₃ m₃ E' _ hv hn hvx kp _
    exact wpAny_tests_nil ⟨rfl, keeps_refl _⟩
  · intro C i v s₃ m₃ E' hC hv _ hn hvx kp _
    obtain ⟨hlt, t, rfl⟩ := hv
    have st₃ : ∀ b o, s.heap.get? b = some o → s₃.heap.get? b = some o := stays_but st₁ (fun b hb => by rcases List.mem_cons.mp hb with rfl | hb; exact hI; cases hb) kp
    refine Subscript_ (wpAny_Name (wpAny_loadName_cell rfl rfl rfl ⟨oc, st₃ _ _ (N _ hc).1, hd⟩ ?_))
    refine wpAny_Name (wpAny_loadName_local rfl rfl hn hvx ?_)
    exact row_item hh (st₃ _ _ (N _ hR).1) (by omega) (by omega) (fun v hv => ⟨⟨_, _, rfl, hv⟩, keeps_refl _⟩) (fun hc => by omega)
  · intro D h' tk ys us hD hlD hpD hlen' hP hF hk
    rw [List.filter_eq_self.mpr (fun _ _ => rfl)] at hF
    have eys := picked (c := vs.length - c - a) hlen' (by omega) (fun j v hj => (hP j v hj).2) hF
    obtain ⟨ep, hpD⟩ := hpD
    have st' : ∀ b o, s.heap.get? b = some o → h'.get? b = some o := stays_but st₁ (fun b hb => by rcases List.mem_cons.mp hb with rfl | hb; exact hI; cases hb) hk
    have hDs : s.heap.get? D = none := by
      cases e : s.heap.get? D with
      | none => rfl
      | some o => have := st₁ D o e; rw [hD] at this; cases this
    refine kD D ep h' tk (fr_stays F st') (news_add F (news_stays N st') (by rw [hpD, rowObj, ← eys, Array.toArray_toList]; rfl) hDs) (fun q hq e => ?_)
    have := (N q hq).1
    rw [e, hDs] at this
    cases this

theorem ints_head {hs : List Value} {x : Int} {r : List Int} (h : IntsAre hs (x :: r)) : ∃ t us, hs = .int x t :: us := by
  cases h with | cons n t r => exact ⟨t, _, rfl⟩
theorem ints_last {hs : List Value} : ∀ {r : List Int} {x : Int}, IntsAre hs (r ++ [x]) → ∃ t us, hs = us ++ [.int x t] := by
  induction hs with
  | nil =>
    intro r x h
    cases r <;> cases h
  | cons v hs ih =>
    intro r x h
    cases r with
    | nil => cases h with | cons n t r => cases r; exact ⟨t, [], rfl⟩
    | cons y r =>
      cases h with
      | cons n t r' =>
        obtain ⟨t', us, e⟩ := ih r'
        exact ⟨t', _ :: us, by rw [e]; rfl⟩

/-- ahead = solid[0] .. -/
theorem st_some {D : Addr} {hs : List Value} {ep : Nat} (F : Fr h₀ L s.heap m) (N : News h₀ L s.heap ((D, listOf (List.toArray hs) ep) :: news)) (X : (Mine.hd02.heap_39 w.params).In h₀) (T : TopRead p loose mg mb h₀)
    (hc : (L + 1, oc) ∈ news) (hd : oc.data = .cell (some (.ref R))) (hR : (R, rowObj true vs nR) ∈ news) (hx : vs.length ≤ 300) (hh : A.handled = none)
    (hI : IntsAre hs (solidI vs)) (hm : m "solid" = some (.ref D)) (hn : m "amount" = some (.int n tn)) (hl : lead (code vs) < vs.length)
    (kD : ∀ a b, stripB (code vs) n = some (a, b) → ∀ D' n' h' tk m', Fr h₀ L h' m' → News h₀ L h' ((D', rowObj true ((vs.drop a).take (b - a)) n') :: news) → (∀ q ∈ news, q.1 ≠ D') → Q (.ret (.ref D')) { s with heap := h', toks := tk }) :
    wpAny (model prog w) A (execs (dueB.drop 2) (dueE L fa cd)) Q E s := by
  have hlt : lead (code vs) + trail (code vs) < vs.length := by
    have := lead_trail (l := code vs) (by rw [code_length]; exact hl)
    rw [code_length] at this; exact this
  obtain ⟨r, e⟩ := solidN_head (l := code vs) (by rw [code_length]; omega)
  obtain ⟨r', e'⟩ := solidN_last (l := code vs) (by rw [code_length]; omega)
  rw [code_length] at e'
  have e2 : solidI vs = (lead (code vs) : Int) :: r.map fun (i : Nat) => (i : Int) := by unfold solidI; rw [e]; rfl
  have e2' : solidI vs = (r'.map fun (i : Nat) => (i : Int)) ++ [((vs.length - 1 - trail (code vs) : Nat) : Int)] := by unfold solidI; rw [e']; simp
  obtain ⟨t0, us, eh⟩ := ints_head (e2 ▸ hI)
  obtain ⟨t9, us', eh'⟩ := ints_last (e2' ▸ hI)
  have hIs : s.heap.IsList D hs.toArray := News.isList N (.head _)
  have hsl : hs.length ≤ 300 := by
    rw [hI.length]; unfold solidI; rw [List.length_map]
    have := solidN_length (code vs); rw [code_length] at this; omega
  -- ahead = solid[0]
  refine wpAny_execs_cons (wpAny_Assign_Name (Subscript_ (nameX_L F hm (wpAny_Constant_int ?_))))
  refine item_listL (s := { s with toks := _ }) hIs (by omega) (by omega) (by rw [eh]; rfl) ?_
  refine storeX_L F N (fun h₁ F₁ N₁ => ?_)
  -- behind = len(row) - 1 - solid[-1]
  refine wpAny_execs_cons (wpAny_Assign_Name (wpAny_BinOp (wpAny_BinOp (Call_ (nameX_B F₁ X T rfl boot_len (by decide) ?_)))))
  refine PyProof.Rows.callWith_builtin1 (args_cons (nameX_C N₁ rfl (.tail _ hc) hd (args_nil ?_)))
  refine row_len (N₁ _ (.tail _ hR)).1 (by have hsl : sizeLine = 16777216 := rfl; omega) (fun t₂ tk₂ => wpAny_Constant_int (PyProof.Rows.sub_int ?_))
  refine Subscript_ (nameX_L F₁ hm (wpAny_UnaryOp (wpAny_Constant_int (PyProof.Rows.neg_int ?_))))
  have hIs₁ : h₁.IsList D hs.toArray := News.isList N₁ (.head _)
  refine subscriptTail_builtin (Heap.IsList.typeIs (s := { s with heap := h₁, toks := _ }) hIs₁) slot_list_getitem.lookup (wpAny_getItem_list_neg (x := .int ((vs.length - 1 - trail (code vs) : Nat) : Int) t9) hIs₁ (by omega) (by rw [eh']; simp; omega) (by omega) (by rw [eh']; simp [show (-1 + ((us'.length : Int) + 1)).toNat = us'.length by omega]) ?_) (by with_unfolding_all rfl) (by intro _; with_unfolding_all rfl)
  refine PyProof.Rows.sub_int ?_
  rw [show (vs.length : Int) - 1 - ((vs.length - 1 - trail (code vs) : Nat) : Int) = (trail (code vs) : Int) by omega]
  refine storeX_L F₁ N₁ (fun h₂ F₂ N₂ => ?_)
  -- if amount < 0: amount = len(row)
  have go : ∀ (s' : Shared) (n' : Int) (t' : Tok) (m' : Str → Option Value), Fr h₀ L s'.heap m' → News h₀ L s'.heap ((D, listOf (List.toArray hs) ep) :: news) → s'.gens = s.gens → s'.drawn = s.drawn → s'.os = s.os →
      m' "ahead" = some (.int (lead (code vs)) t0) → (∃ t, m' "behind" = some (.int (trail (code vs)) t)) → m' "amount" = some (.int n' t') → 0 ≤ n' → (n' = if n < 0 then (vs.length : Int) else n) →
      wpAny (model prog w) A (execs (dueB.drop 5) (dueE L fa cd)) Q E s' := by
    intro s' n' t' m' F' N' eg ed eo ha ⟨tb', hb⟩ hnn h0 hn'
    refine wpAny_execs_cons (wpAny_Assign_Name (Call_ (nameX_B F' X T rfl boot_min (by decide) ?_)))
    refine PyProof.Rows.callWith_builtin1 (args_cons (nameX_L F' ha (args_cons (nameX_L F' hnn (args_nil ?_)))))
    refine min_two_N hh F' N' (fun h₃ tk₃ F₃ N₃ => ?_)
    have hfirst : ∃ a : Nat, (if n' < (lead (code vs) : Int) then n' else (lead (code vs) : Int)) = a ∧ a = (if n < 0 then lead (code vs) else min (lead (code vs)) n.toNat) := by
      refine ⟨(if n' < (lead (code vs) : Int) then n' else (lead (code vs) : Int)).toNat, ?_, ?_⟩
      · split <;> omega
      · split at hn' <;> split <;> omega
    obtain ⟨a, ea, ea'⟩ := hfirst
    rw [ea]
    refine storeX_L F₃ N₃ (fun h₄ F₄ N₄ => ?_)
    refine wpAny_execs_cons (wpAny_Assign_Name (Call_ (nameX_B F₄ X T rfl boot_min (by decide) ?_)))
    refine PyProof.Rows.callWith_builtin1 (args_cons (nameX_L F₄ hb (args_cons (wpAny_BinOp (nameX_L F₄ hnn (nameX_L F₄ rfl (PyProof.Rows.sub_int (args_nil ?_))))))))
    refine min_two_N hh F₄ N₄ (fun h₅ tk₅ F₅ N₅ => ?_)
    have hlast : ∃ c : Nat, (if n' - a < (trail (code vs) : Int) then n' - a else (trail (code vs) : Int)) = c ∧ c = (if n < 0 then trail (code vs) else min (trail (code vs)) (n.toNat - a)) := by
      refine ⟨(if n' - a < (trail (code vs) : Int) then n' - a else (trail (code vs) : Int)).toNat, ?_, ?_⟩
      · split at hn' <;> split at ea' <;> split <;> omega
      · split at hn' <;> split at ea' <;> split <;> omega
    obtain ⟨c, ec, ec'⟩ := hlast
    rw [ec]
    refine storeX_L F₅ N₅ (fun h₆ F₆ N₆ => ?_)
    have hb : stripB (code vs) n = some (a, vs.length - c) := by
      unfold stripB
      rw [code_length, if_neg (by omega)]
      dsimp only
      rw [← ea', ← ec']
    have hab := stripB_le hb
    rw [code_length] at hab
    refine st_run (a := a) (c := c) F₆ (fun q hq => N₆ q (.tail _ hq)) X T hc hd hR hx hh rfl rfl ?_ ?_
    · split at ec' <;> split at ea' <;> omega
    · intro D' n₁ h₇ tk₇ F₇ N₇ hne
      obtain ⟨hp, gs, dr, tks, os⟩ := s'
      cases eg; cases ed; cases eo
      exact kD a (vs.length - c) hb D' n₁ h₇ tk₇ _ F₇ N₇ hne
  refine wpAny_execs_cons (wpAny_If (wpAny_isTrue_Compare1 (nameX_L F₂ hn (wpAny_Constant_int (PyProof.Rows.lt_int (wpAny_truthy_bool ?_))))))
  by_cases h0 : n < 0
  · rw [decide_eq_true h0]
    simp only [if_true]
    refine wpAny_execs_cons (wpAny_Assign_Name (Call_ (nameX_B F₂ X T rfl boot_len (by decide) ?_)))
    refine PyProof.Rows.callWith_builtin1 (args_cons (nameX_C N₂ rfl (.tail _ hc) hd (args_nil ?_)))
    refine row_len (N₂ _ (.tail _ hR)).1 (by have hsl : sizeLine = 16777216 := rfl; omega) (fun t₃ tk₃ => storeX_L F₂ N₂ (fun h₃ F₃ N₃ => wpAny_execs_nil ?_))
    exact go _ vs.length _ _ F₃ N₃ rfl rfl rfl rfl ⟨_, rfl⟩ rfl (by omega) (by rw [if_pos h0])
  · rw [decide_eq_false h0]
    simp only [Bool.false_eq_true, if_false]
    refine wpAny_execs_nil ?_
    exact go _ n tn _ F₂ N₂ rfl rfl rfl rfl ⟨_, rfl⟩ hn (by omega) (by rw [if_neg h0])
end
end Mine
/- _law_due: its contract -/
namespace Mine
theorem due02 {prog : Program} {w : World} {A A₀ : Around} {E : Value → Shared → Prop} {s : Shared} {h₀ base : Heap} {L : Addr} {m mg mb : Str → Option Value} {news : List (Addr × Obj)} {p : Program} {loose : List Str} {mean : ExcName → Option Value} {Q : Value → Shared → Prop} {env : Env} {outer : List Env}
    {R Bi : Addr} {vs : List Value} {nR : Nat} {tb : Tok} {n : Int} {tn : Tok}
    (B : Below A₀ base outer h₀) (F : Fr h₀ L s.heap m) (X₀ : (Mine.hd02.heap_39 w.params).In h₀) (N : News h₀ L s.heap news) (T : Top p loose mean mg mb h₀) (hA : A.frames = some (env :: outer)) (hf : env.frame = some L) (hke : env.scope.kind = .function)
    (hroom : A.depth < recursionLimit) (hh : A.handled = none) (hu : ∀ e, (A.deeper e).units + 64 < cLine) (hx : vs.length ≤ 300) (hR : (R, rowObj true vs nR) ∈ news) (hB : inner Bi tb ∈ news) (hG : ∀ v ∈ vs, Good Bi v)
    (hQ : ∀ a b, stripB (code vs) n = some (a, b) → ∀ D' n' h' tk, Fr h₀ L h' m → News h₀ L h' ((D', rowObj true ((vs.drop a).take (b - a)) n') :: news) → (∀ q ∈ news, q.1 ≠ D') → Q (.ref D') { s with heap := h', toks := tk })
    (hX : ∀ h' tk t, stripB (code vs) n = none → Fr h₀ L h' m → News h₀ L h' news → Q (.str (Str.ofString "IndexError") t) { s with heap := h', toks := tk }) :
    wpAny (model prog w) A (call (.ref 33) [.ref R, .int n tn]) Q E s := by
  refine wpAny_call (code_defC (K := Mine.hd02.heap_39 w.params) B F X₀ N T hA hf hke rfl rfl hroom (BindsTo.of_eq rfl) rfl (by decide) ?_ rfl rfl rfl)
  intro g L' h₁ tk₁ cells FG F' N' C' B' X' T' hlt
  obtain ⟨oc, rfl, hd⟩ := CellsAre.one C'
  have hc : (L' + 1, oc) ∈ [(L' + 1, oc)] ++ news := .head _
  have up : ∀ q ∈ news, q ∈ [(L' + 1, oc)] ++ news := fun q hq => .tail _ hq
  have hlen : (code vs).length = vs.length := code_length vs
  refine st_solid (fa := 33) F' N' X' (topRead_of T') hc hd (up _ hR) (up _ hB) hG hx hh (hu _) ?_
  intro h₂ tk₂ D hs m₂ ep F₂ N₂ hI e1 e2
  have hn : m₂ "amount" = some (.int n tn) := (e2 _ (by decide)).trans rfl
  refine st_blank F₂ N₂ X' (topRead_of T') hc hd (up _ hR) hx (hu _) hI e1 hn ?_ ?_ ?_
  · intro hl hnot h₃ tk₃ t₃ F₃ N₃
    refine leaveK_ F₃ N₃ fun F₄ N₄ => hX h₃ tk₃ t₃ ?_ F₄ (fun q hq => N₄ q (up q hq))
    unfold stripB
    rw [hlen, if_pos hl, if_neg hnot]
  · intro hl hok D' h₃ tk₃ F₃ N₃ hne
    refine leaveK_ F₃ N₃ fun F₄ N₄ => ?_
    have hb : stripB (code vs) n = some (n.toNat, vs.length) := by
      unfold stripB
      rw [hlen, if_pos hl, if_pos hok]
    refine hQ _ _ hb D' 0 h₃ tk₃ F₄ ?_ (fun q hq => hne q (up q hq))
    rw [List.take_of_length_le (by rw [List.length_drop]; omega)]
    intro q hq
    rcases List.mem_cons.mp hq with rfl | hq
    · exact N₄ _ (.head _)
    · exact N₄ q (.tail _ (up q hq))
  · intro hl h₃ F₃ N₃
    refine st_some (s := { s with heap := h₃, toks := tk₂ }) F₃ N₃ X' (topRead_of T') hc hd (up _ hR) hx hh hI e1 hn hl ?_
    intro a b hb D' n' h₄ tk₄ m₄ F₄ N₄ hne
    refine leaveK_ F₄ N₄ fun F₅ N₅ => ?_
    refine hQ a b hb D' n' h₄ tk₄ F₅ ?_ (fun q hq => hne q (up q hq))
    intro q hq
    rcases List.mem_cons.mp hq with rfl | hq
    · exact N₅ _ (.head _)
    · exact N₅ q (.tail _ (up q hq))
end Mine
/- the law of 02: what is built -/
namespace Mine
def lawB : List Stmt := fnBody PySem.Challenge.pw_dm0204_02 5
def lawS : Scope := fnScope PySem.Challenge.pw_dm0204_02 5
abbrev lawE (L fa : Addr) (cd : Value) : Env := envOfC "law" lawS L fa cd
theorem fmod_range {a b : Int} (hb : 0 < b) : 0 ≤ a.fmod b ∧ a.fmod b < b := ⟨Int.fmod_nonneg_of_pos a hb, Int.fmod_lt_of_pos a hb⟩

section
variable {prog : Program} {w : World} {A : Around} {E : Value → Shared → Prop} {s : Shared} {h₀ : Heap} {L fa : Addr} {m mg mb : Str → Option Value} {news : List (Addr × Obj)} {cd : Value} {Q : Flow → Shared → Prop} {p : Program} {loose : List Str}

/-- script, first, second -/
theorem st_a {l : Addr} {vs : List Value} {ns : List Int} (F : Fr h₀ L s.heap m) (N : News h₀ L s.heap news) (X : (Mine.hd02.heap_39 w.params).In h₀) (T : TopRead p loose mg mb h₀)
    (hm : m "script" = some (.ref l)) (hl : h₀.IsList l vs.toArray) (hI : IntsAre vs ns) (hlen : ns.length ≤ 63) (hu : A.units + 64 < cLine)
    (k : ∀ h' tk a b t1 t2 S us ms m', Fr h₀ L h' m' → News h₀ L h' ((S, listOf (List.toArray us) 0) :: news) → IntsAre us ms → ms.length ≤ 63 → m' "script" = some (.ref S) → m' "first" = some (.int a t1) → m' "second" = some (.int b t2) →
      wpAny (model prog w) A (execs (lawB.drop 3) (lawE L fa cd)) Q E { s with heap := h', toks := tk }) :
    wpAny (model prog w) A (execs lawB (lawE L fa cd)) Q E s := by
  have hll : s.heap.IsList l vs.toArray := stays_list F.keep hl
  have hvl : vs.length = ns.length := hI.length
  have hsl : sizeLine = 16777216 := rfl
  refine wpAny_execs_cons (wpAny_Assign_Name (Subscript_ (nameX_L F hm (wpAny_Slice (evalPart_none_step (evalPart_some_step (wpAny_Constant_int (evalPart_none_step ?_))))))))
  refine kmk_slice (s := { s with toks := _ }) F N hll .none (.int _ _) (fun D₁ h₁ F₁ N₁ _ => ?_) rfl (fun _ => rfl) (by simp only [List.size_toArray]; omega)
  have hI1 := kmk_upto (y := 63) hI (by omega)
  generalize hus : (slicePick vs.toArray none (some 63) none).toList = us at hI1
  have e1 : slicePick vs.toArray none (some 63) none = us.toArray := by rw [← hus, Array.toArray_toList]
  rw [e1] at N₁
  generalize hms : List.take (63 : Int).toNat ns = ms at hI1
  have hml : ms.length ≤ 63 := by rw [← hms, List.length_take]; omega
  have hul : us.length = ms.length := hI1.length
  refine storeX_L F₁ N₁ (fun h₂ F₂ N₂ => ?_)
  -- second
  have go : ∀ (s' : Shared) (a : Int) (t1 : Tok) (m' : Str → Option Value), Fr h₀ L s'.heap m' → News h₀ L s'.heap ((D₁, listOf (List.toArray us) 0) :: news) → s'.gens = s.gens → s'.drawn = s.drawn → s'.os = s.os →
      m' "script" = some (.ref D₁) → m' "first" = some (.int a t1) → wpAny (model prog w) A (execs (lawB.drop 2) (lawE L fa cd)) Q E s' := by
    intro s' a t1 m' F' N' eg ed eo hs hf
    have fin : ∀ (b : Int) (t2 : Tok) (tk : Nat), wpAny (model prog w) A (storeName (lawE L fa cd) "second" (.int b t2)) (fun _ s₂ => wpAny (model prog w) A (execs (lawB.drop 3) (lawE L fa cd)) Q E s₂) E { s' with toks := tk } := by
      intro b t2 tk
      refine storeX_L F' N' (fun h₃ F₃ N₃ => ?_)
      obtain ⟨hp, gs, dr, tks, os⟩ := s'
      cases eg; cases ed; cases eo
      exact k h₃ _ a b t1 t2 D₁ us ms _ F₃ N₃ hI1 hml hs hf rfl
    refine wpAny_execs_cons (wpAny_Assign_Name (IfExp_ (wpAny_isTrue_Compare1 (Call_ (nameX_B F' X T rfl boot_len (by decide) ?_)))))
    refine PyProof.Rows.callWith_builtin1 (args_cons (nameX_L F' hs (args_nil ?_)))
    refine len_list (News.isList N' (.head _)) (by simp only [List.size_toArray]; omega) (wpAny_Constant_int (PyProof.Rows.gt_int (wpAny_truthy_bool ?_)))
    by_cases h1 : (1 : Int) < (us.toArray.size : Nat)
    · rw [decide_eq_true h1]
      simp only [if_true]
      refine Subscript_ (nameX_L F' hs (wpAny_Constant_int ?_))
      obtain ⟨t, hx⟩ := hI1.get 1 (ms[1]'(by simp at h1; omega)) (by simp)
      refine item_listL (News.isList N' (.head _)) (by decide) (by decide) (x := .int (ms[1]'(by simp at h1; omega)) t) hx ?_
      exact fin _ _ _
    · rw [decide_eq_false h1]
      simp only [Bool.false_eq_true, if_false]
      exact wpAny_Constant_int (fin _ _ _)
  have fin : ∀ (h : Heap) (a : Int) (t1 : Tok) (tk : Nat) (m' : Str → Option Value), m' "script" = some (.ref D₁) → Fr h₀ L h m' → News h₀ L h ((D₁, listOf (List.toArray us) 0) :: news) → wpAny (model prog w) A (storeName (lawE L fa cd) "first" (.int a t1)) (fun _ s₂ => wpAny (model prog w) A (execs (lawB.drop 2) (lawE L fa cd)) Q E s₂) E { s with heap := h, toks := tk } := by
    intro h a t1 tk m' hs F' N'
    refine storeX_L F' N' (fun h₃ F₃ N₃ => ?_)
    exact go _ a t1 _ F₃ N₃ rfl rfl rfl hs rfl
  refine wpAny_execs_cons (wpAny_Assign_Name (IfExp_ (wpAny_isTrue_Compare1 (nameX_L F₂ rfl (List_ (args_nil ?_))))))
  refine newList_N F₂ N₂ (fun h₃ F₃ N₃ => ?_)
  refine ne_intsK (News.isList N₃ (.tail _ (.head _))) hI1 (News.isList N₃ (.head _)) .nil hu (wpAny_truthy_bool ?_)
  by_cases h1 : ms = []
  · rw [decide_eq_true h1]
    simp only [Bool.not_true, Bool.false_eq_true, if_false]
    exact wpAny_Constant_int (fin h₃ _ _ _ _ rfl F₃ (fun q hq => N₃ q (.tail _ hq)))
  · rw [decide_eq_false h1]
    simp only [Bool.not_false, if_true]
    refine Subscript_ (nameX_L F₃ rfl (wpAny_Constant_int ?_))
    have h0 : 0 < ms.length := List.length_pos_iff.mpr h1
    obtain ⟨t, hx⟩ := hI1.get 0 (ms[0]'h0) (by simp)
    refine item_listL (News.isList N₃ (.tail _ (.head _))) (by decide) (by decide) (x := .int (ms[0]'h0) t) hx ?_
    exact fin h₃ _ _ _ _ rfl F₃ (fun q hq => N₃ q (.tail _ hq))
end
end Mine
/- the law of 02: things, row -/
namespace Mine
theorem ints_itemA : ∀ {vs : List Value} {ns : List Int} {i : Nat} {v : Value}, IntsAre vs ns → vs.toArray[i]? = some v → ∃ a t, v = .int a t
  | _, _, i, v, .nil, h => by simp at h
  | _, _, 0, v, .cons n t r, h => by simp at h; exact ⟨n, t, h.symm⟩
  | _, _, i + 1, v, .cons n t r, h => ints_itemA (i := i) r (by simpa using h)
theorem paired_good {B : Addr} : ∀ {l ys : List Value}, Paired (fun _ y => Good B y) l ys → (∀ y ∈ ys, Good B y) ∧ ys.length = l.length
  | _, _, .nil => ⟨(fun _ h => nomatch h), rfl⟩
  | _, _, .cons h r => by
    obtain ⟨h1, h2⟩ := paired_good r
    exact ⟨fun y hy => (List.mem_cons.mp hy).elim (fun e => e ▸ h) (h1 y), by simp [h2]⟩
theorem mul_one_list {v : Value} (n : Nat) : List.foldl (fun x1 x2 => x1 ++ x2) #[] (List.replicate (if ([v].toArray : Array Value).isEmpty = true then 0 else n) [v].toArray) = (List.replicate n v).toArray := by
  rw [listMul_foldl_if]
  congr 1
  induction n with
  | zero => rfl
  | succ n ih => simp [List.replicate_succ, ih]

section
variable {prog : Program} {w : World} {A : Around} {E : Value → Shared → Prop} {s : Shared} {h₀ : Heap} {L fa : Addr} {m mg mb : Str → Option Value} {news : List (Addr × Obj)} {cd : Value} {Q : Flow → Shared → Prop} {p : Program} {loose : List Str}

/-- the eight things -/
def eight (B : Addr) (t : Nat → Tok) : List Value := [.str (Str.ofString " ") (t 0), .int 7 (t 1), .none, .str (Str.ofString "") (t 2), .str (Str.ofString "  ") (t 3), .str (Str.ofString "\t") (t 4), .str (Str.ofString "x") (t 5), .ref B]
theorem eight_good {B : Addr} {t : Nat → Tok} {v : Value} (h : v ∈ eight B t) : Good B v := by
  simp only [eight, List.mem_cons, List.not_mem_nil, or_false] at h
  rcases h with rfl | rfl | rfl | rfl | rfl | rfl | rfl | rfl
  · exact .inl ⟨_, _, rfl, by simp [words]⟩
  · exact .inr (.inl ⟨_, rfl⟩)
  · exact .inr (.inr (.inl rfl))
  · exact .inl ⟨_, _, rfl, by simp [words]⟩
  · exact .inl ⟨_, _, rfl, by simp [words]⟩
  · exact .inl ⟨_, _, rfl, by simp [words]⟩
  · exact .inl ⟨_, _, rfl, by simp [words]⟩
  · exact .inr (.inr (.inr rfl))

/-- things = (..) -/
theorem st_things {S : Addr} {us : List Value} {o1 : Obj} (F : Fr h₀ L s.heap m) (N : News h₀ L s.heap [(S, listOf (List.toArray us) 0), (L + 1, o1)]) (hd1 : ∃ v, o1.data = .cell v) (hne : S ≠ L + 1)
    (k : ∀ h' tk B Tu tb t o', Fr h₀ L h' m → News h₀ L h' [(Tu, rowObj false (eight B t) 0), inner B tb, (S, listOf (List.toArray us) 0), (L + 1, o')] → o'.data = .cell (some (.ref Tu)) → wpAny (model prog w) A (execs (lawB.drop 4) (lawE L fa cd)) Q E { s with heap := h', toks := tk }) :
    wpAny (model prog w) A (execs (lawB.drop 3) (lawE L fa cd)) Q E s := by
  obtain ⟨v1, hd1⟩ := hd1
  refine wpAny_execs_cons ?_
  refine wpAny_Assign_Name (hs := by kernel_rfl) ?_
  refine Tuple_ ?_
  refine args_cons (he := by kernel_rfl) ?_
  refine Constant_str ?_
  refine args_cons (he := by kernel_rfl) ?_
  refine wpAny_Constant_int ?_
  refine args_cons (he := by kernel_rfl) ?_
  refine wpAny_Constant_none ?_
  refine args_cons (he := by kernel_rfl) ?_
  refine Constant_str ?_
  refine args_cons (he := by kernel_rfl) ?_
  refine Constant_str ?_
  refine args_cons (he := by kernel_rfl) ?_
  refine Constant_str ?_
  refine args_cons (he := by kernel_rfl) ?_
  refine Constant_str ?_
  refine args_cons (he := by kernel_rfl) ?_
  refine List_ ?_
  refine args_cons (he := by kernel_rfl) ?_
  refine Constant_str ?_
  refine args_nil ?_
  refine newList_N F N (fun h₁ F₁ N₁ => ?_)
  refine args_nil ?_
  refine newTuple_N F₁ N₁ (fun h₂ F₂ N₂ => ?_)
  have z1 : s.heap.objs.size ≠ L + 1 := fun e => absurd (Heap.lt_size (N _ (.tail _ (.head _))).1) (by rw [e]; exact Nat.lt_irrefl _)
  have z2 : h₁.objs.size ≠ L + 1 := fun e => absurd (Heap.lt_size (N₁ _ (.tail _ (.tail _ (.head _)))).1) (by rw [e]; exact Nat.lt_irrefl _)
  refine storeX_C (c := L + 1) F₂ N₂ rfl (.tail z2 (.tail z1 (.tail hne (.head (fun _ h => nomatch h))))) hd1 (fun h₃ o' F₃ N₃ hd' => ?_)
  refine k h₃ _ s.heap.objs.size h₁.objs.size (s.toks + 6) (fun i => s.toks + i) o' F₃ ?_ hd'
  exact N₃

theorem mul_blank_row {l : Addr} {t : Tok} {x : Int} {u : Tok} {Q : Value → Shared → Prop} (F : Fr h₀ L s.heap m) (N : News h₀ L s.heap ((l, { cls := .type "list", data := .seq [Value.str (Str.ofString " ") t].toArray }) :: news)) (h0 : 0 ≤ x) (h1 : x ≤ 100)
    (h : ∀ D h', Fr h₀ L h' m → News h₀ L h' ((D, rowObj true (List.replicate x.toNat (.str (Str.ofString " ") t)) 0) :: news) → Q (.ref D) { s with heap := h' }) :
    wpAny (model prog w) A (binaryOp .Mult (.ref l) (.int x u)) Q E s := by
  refine mul_list F N (N _ (.head _)).1 (by omega) (by omega) (by show 1 * x.toNat ≤ 2 ^ 24; omega) (fun h' F' N' => ?_)
  refine h _ h' F' (fun q hq => ?_)
  rw [mul_one_list] at N'
  rcases List.mem_cons.mp hq with rfl | hq
  · exact N' _ (.head _)
  · exact N' _ (.tail _ (.tail _ hq))

theorem news_pick5 {h : Heap} {x a b c d : Addr × Obj} (N : News h₀ L h (x :: a :: b :: c :: d :: news)) : News h₀ L h (x :: news) := fun q hq => by
  rcases List.mem_cons.mp hq with rfl | hq
  · exact N _ (.head _)
  · exact N q (.tail _ (.tail _ (.tail _ (.tail _ (.tail _ hq)))))
theorem rep_good {B : Addr} {n : Nat} {t : Tok} : ∀ v ∈ List.replicate n (Value.str (Str.ofString " ") t), Good B v := by
  intro v hv
  rw [List.eq_of_mem_replicate hv]
  exact .inl ⟨_, _, rfl, by simp [words]⟩

/-- row = [' '] * (second % 12) + [things[x % 8] for x in script[2:]] + [' '] * (second // 12 % 12) -/
theorem st_row {S B Tu : Addr} {us : List Value} {ms : List Int} {oc : Obj} {t : Nat → Tok} {b : Int} {t2 : Tok} (F : Fr h₀ L s.heap m) (N : News h₀ L s.heap news) (hT : (Tu, rowObj false (eight B t) 0) ∈ news) (hS : (S, listOf (List.toArray us) 0) ∈ news) (hc : (L + 1, oc) ∈ news)
    (hd : oc.data = .cell (some (.ref Tu))) (hI : IntsAre us ms) (hlen : ms.length ≤ 63) (hs : m "script" = some (.ref S)) (hb : m "second" = some (.int b t2)) (hh : A.handled = none)
    (k : ∀ h' tk R vs nR, Fr h₀ L h' (fun y => if y = Str.ofString "row" then some (.ref R) else m y) → News h₀ L h' ((R, rowObj true vs nR) :: news) → (∀ v ∈ vs, Good B v) → vs.length ≤ 100 → wpAny (model prog w) A (execs (lawB.drop 5) (lawE L fa cd)) Q E { s with heap := h', toks := tk }) :
    wpAny (model prog w) A (execs (lawB.drop 4) (lawE L fa cd)) Q E s := by
  have hsl : sizeLine = 16777216 := rfl
  have hul : us.length = ms.length := hI.length
  have r1 := fmod_range (a := b) (b := 12) (by decide)
  have r2 := fmod_range (a := b.fdiv 12) (b := 12) (by decide)
  refine wpAny_execs_cons ?_
  refine wpAny_Assign_Name (hs := by kernel_rfl) ?_
  refine wpAny_BinOp (wpAny_BinOp (wpAny_BinOp ?_))
  refine List_ ?_
  refine args_cons (he := by kernel_rfl) ?_
  refine Constant_str ?_
  refine args_nil ?_
  refine newList_N F N (fun h₁ F₁ N₁ => ?_)
  refine wpAny_BinOp (nameX_L F₁ hb (wpAny_Constant_int (mod_int' (by decide) ?_)))
  refine mul_blank_row F₁ N₁ r1.1 (by omega) (fun D₁ h₂ F₂ N₂ => ?_)
  have up2 : ∀ q ∈ news, h₂.get? q.1 = some q.2 := fun q hq => (N₂ q (.tail _ hq)).1
  refine wpAny_ListComp_free (cl := [("things", L + 1)]) (fun _ => true) (fun _ y => Good B y) rfl (by decide) rfl (by decide) rfl ?_
  refine Subscript_ (nameX_L F₂ hs ?_)
  refine wpAny_Slice (evalPart_some_step (wpAny_Constant_int (evalPart_none_step (evalPart_none_step ?_))))
  refine kmk_slice (s := { s with heap := h₂, toks := _ }) F₂ N₂ (News.isList N₂ (.tail _ hS)) (.int _ _) .none (fun D₂ h₃ F₃ N₃ _ => ?_) rfl (fun _ => rfl) (by simp only [List.size_toArray]; omega)
  have hI3 := kmk_from (x := 2) hI (by omega)
  generalize hws : (slicePick us.toArray (some 2) none none).toList = ws at hI3
  have e1 : slicePick us.toArray (some 2) none none = ws.toArray := by rw [← hws, Array.toArray_toList]
  rw [e1] at N₃
  have hwl : ws.length ≤ 63 := by rw [hI3.length, List.length_drop]; omega
  have hlR : h₃.IsList D₂ ws.toArray := News.isList N₃ (.head _)
  refine wpAny_pyIter_list hlR ?_
  refine ⟨_, _, _, _, _, _, rfl, Walks.list hh _ D₂ (Nat.ne_of_lt (by obtain ⟨o, ho, _⟩ := hlR; exact Heap.lt_size ho)) ws.toArray, by simp only [List.size_toArray]; omega, ⟨⟨_, Heap.get?_push_size _ rfl, rfl, rfl⟩, hlR.push _⟩, ?_, ⟨?_, ?_⟩, ?_⟩
  · intro b hb
    rw [Heap.size_push]
    obtain ⟨o, ho, _⟩ := hlR
    have := Heap.lt_size ho
    rcases List.mem_cons.mp hb with rfl | hb
    · exact Nat.lt_succ_self _
    · rcases List.mem_cons.mp hb with rfl | hb
      · exact Nat.lt_succ_of_lt this
      · cases hb
  · intro C i v s₃ m₃ E' _ hn _ _ _ _
    exact wpAny_tests_nil ⟨rfl, keeps_refl _⟩
  · intro C i v s₃ m₃ E' hC hv _ hn hvx kp _
    obtain ⟨a, t, rfl⟩ : ∃ a t, v = .int a t := ints_itemA hI3 hv
    have st₃ : ∀ b o, h₃.get? b = some o → s₃.heap.get? b = some o := stays_but (fun b o e => Heap.get?_push_of_some _ e) fresh_wr kp
    refine Subscript_ (wpAny_Name (wpAny_loadName_cell rfl rfl rfl ⟨oc, st₃ _ _ (N₃ _ (.tail _ (.tail _ hc))).1, hd⟩ ?_))
    refine wpAny_BinOp (wpAny_Name (wpAny_loadName_local rfl rfl hn hvx (wpAny_Constant_int (mod_int' (by decide) ?_))))
    have r := fmod_range (a := a) (b := 8) (by decide)
    exact row_item hh (st₃ _ _ (N₃ _ (.tail _ (.tail _ hT))).1) r.1 (by omega) (fun v hv => ⟨eight_good (List.mem_of_getElem? hv), keeps_refl _⟩) (fun hc => by simp [eight] at hc; omega)
  · intro D h' tk ys zs hD hlD hpD hlen' hP hF hk
    rw [List.filter_eq_self.mpr (fun _ _ => rfl)] at hF
    obtain ⟨g1, g2⟩ := paired_good hF
    have hyl : ys.toList.length ≤ 63 := by rw [g2, hlen']; simp only [List.size_toArray]; omega
    have st : ∀ b o, h₃.get? b = some o → h'.get? b = some o := stays_but (fun b o e => Heap.get?_push_of_some _ e) fresh_wr hk
    have F₄ := fr_stays F₃ st
    have N₄ := news_stays N₃ st
    have hlD' : h'.IsList D ys.toList.toArray := by rw [Array.toArray_toList]; exact hlD
    refine add_lists F₄ N₄ (row_isList (N₄ _ (.tail _ (.head _))).1) hlD' (fun h₅ F₅ N₅ => ?_) (by rw [List.length_replicate]; omega)
    refine wpAny_BinOp (List_ ?_)
    refine args_cons (he := by kernel_rfl) ?_
    refine Constant_str ?_
    refine args_nil ?_
    refine newList_N F₅ N₅ (fun h₆ F₆ N₆ => ?_)
    refine wpAny_BinOp (wpAny_BinOp (nameX_L F₆ hb (wpAny_Constant_int (PyProof.Rows.floordiv_int (by decide) (wpAny_Constant_int (mod_int' (by decide) ?_))))))
    refine mul_blank_row F₆ N₆ r2.1 (by omega) (fun D₇ h₇ F₇ N₇ => ?_)
    refine add_lists F₇ N₇ (News.isList N₇ (.tail _ (.head _))) (row_isList (N₇ _ (.head _)).1) (fun h₈ F₈ N₈ => ?_) (by simp only [List.length_append, List.length_replicate]; omega)
    refine storeX_L F₈ N₈ (fun h₉ F₉ N₉ => ?_)
    refine k h₉ _ _ _ 0 F₉ (news_pick5 N₉) (fun v hv => ?_) ?_
    · rcases List.mem_append.mp hv with hv | hv
      · rcases List.mem_append.mp hv with hv | hv
        · exact rep_good v hv
        · exact g1 v hv
      · exact rep_good v hv
    · simp only [List.length_append, List.length_replicate]; omega
end
end Mine
/- the law of 02: a turn, its last two statements -/
namespace Mine
def turnB : List Stmt := match lawB.drop 5 with | .For _ _ b _ _ :: _ => b | _ => []
abbrev lawA (L fa : Addr) (cd : Value) : Around := callerA.deeper (lawE L fa cd)
theorem row_eqv {B : Addr} {k : Bool} {vs : List Value} (g : ∀ v ∈ vs, Good B v) : PyData.eqv (rowData k vs) (rowData k vs) = true := PySem.SeqAt.eqv_refl _ (row_lay g)
theorem good_slice {B : Addr} {vs : List Value} {a c : Nat} (g : ∀ v ∈ vs, Good B v) : ∀ v ∈ (vs.drop a).take c, Good B v := fun v hv => g v (List.mem_of_mem_drop (List.mem_of_mem_take hv))

section
variable {prog : Program} {w : World} {E : Value → Shared → Prop} {s : Shared} {h₀ : Heap} {L fa : Addr} {m mg mb : Str → Option Value} {news : List (Addr × Obj)} {cd : Value} {Q : Flow → Shared → Prop} {p : Program} {loose : List Str} {mean : ExcName → Option Value}
  {R Bi : Addr} {vs : List Value} {nR : Nat} {tb : Tok} {n a : Int} {tn t1 : Tok} {tv : Value}

/-- what told holds -/
def Told (kd : Bool) (vs : List Value) (n : Int) (tv : Value) (news : List (Addr × Obj)) : Prop :=
  match stripB (code vs) n with
  | some (a, b) => ∃ D n', tv = .ref D ∧ (D, rowObj kd ((vs.drop a).take (b - a)) n') ∈ news
  | none => ∃ t, tv = .str (Str.ofString "IndexError") t

/-- due = _law_due(row, amount); if due == 'IndexError': .. -/
theorem st_due (B : Below callerA h₀ [] h₀) (F : Fr h₀ L s.heap m) (N : News h₀ L s.heap news) (X : (Mine.hd02.heap_39 w.params).In h₀) (T : Top p loose mean mg mb h₀)
    (hR : (R, rowObj true vs nR) ∈ news) (hB : inner Bi tb ∈ news) (hG : ∀ v ∈ vs, Good Bi v) (hx : vs.length ≤ 100)
    (hr : m "row" = some (.ref R)) (hn : m "amount" = some (.int n tn)) (hf : m "first" = some (.int a t1)) (ht : m "told" = some tv) (hT : Told (a.fmod 2 == 0) vs n tv news)
    (k : ∀ h' tk R' vs' nR' m', Fr h₀ L h' m' → News h₀ L h' ((R', rowObj true vs' nR') :: news) → (R' = R ∨ ∀ q ∈ news, q.1 ≠ R') → (∀ v ∈ vs', Good Bi v) → vs'.length ≤ 100 → m' "row" = some (.ref R') → m' "first" = some (.int a t1) → Q .next { s with heap := h', toks := tk }) :
    wpAny (model prog w) (lawA L fa cd) (execs (turnB.drop 6) (lawE L fa cd)) Q E s := by
  have hsl : sizeLine = 16777216 := rfl
  have hu : (lawA L fa cd).units + 64 < cLine := Nat.le_of_ble_eq_true rfl
  refine wpAny_execs_cons ?_
  refine wpAny_Assign_Name (hs := by kernel_rfl) ?_
  refine Call_ (nameX_K F X (topRead_of T) rfl ?_)
  refine callWith_K X (by rfl) ?_
  refine args_cons (he := by kernel_rfl) ?_
  refine nameX_L F hr ?_
  refine args_cons (he := by kernel_rfl) ?_
  refine nameX_L F hn (args_nil ?_)
  refine ⟨X.keeps F.keep, ?_⟩
  refine due02 B F X N T rfl rfl rfl (by show 1 + claimMargin + 1 < recursionLimit; decide) rfl (fun e => Nat.le_of_ble_eq_true rfl) (by omega) hR hB hG ?_ ?_
  · intro a₁ b₁ hb D' n' h₁ tk₁ F₁ N₁ hne
    refine storeX_L F₁ N₁ (fun h₂ F₂ N₂ => ?_)
    refine wpAny_execs_cons ?_
    refine wpAny_If (wpAny_isTrue_Compare1 (nameX_L F₂ rfl (Constant_str ?_)))
    obtain ⟨as, ra⟩ := row_reads (N₂ _ (.tail _ hB)).1 (N₂ _ (.head _)).1 (good_slice hG)
    refine eq_dataH (s := { s with heap := h₂, toks := _ }) ra (.str _ _) (row_shaped (good_slice hG)) (by decide +kernel) hu (wpAny_truthy_bool ?_)
    have e0 : PyData.eqv (rowData true ((vs.drop a₁).take (b₁ - a₁))) (.str (Str.ofString "IndexError")) = false := by simp [rowData, PyData.eqv]
    rw [e0]
    simp only [Bool.false_eq_true, if_false]
    unfold Told at hT
    rw [hb] at hT
    obtain ⟨D₁, n₁, rfl, hD₁⟩ := hT
    have fin : ∀ (h₃ : Heap) (tk : Nat), Fr h₀ L h₃ (fun y => if y = Str.ofString "due" then some (Value.ref D') else m y) → News h₀ L h₃ ((D', rowObj true ((vs.drop a₁).take (b₁ - a₁)) n') :: news) →
        wpAny (model prog w) (lawA L fa cd) (execs ((match turnB.drop 7 with | .If _ _ (_ :: r) _ :: _ => r | _ => []) : List Stmt) (lawE L fa cd)) (fun f s₃ => match f with | .next => wpAny (model prog w) (lawA L fa cd) (execs (turnB.drop 8) (lawE L fa cd)) Q E s₃ | f => Q f s₃) E { s with heap := h₃, toks := tk } := by
      intro h₃ tk F₃ N₃
      refine wpAny_execs_cons ?_
      refine wpAny_Assign_Name (nameX_L F₃ rfl (storeX_L F₃ N₃ (fun h₄ F₄ N₄ => wpAny_execs_nil (wpAny_execs_nil ?_))))
      refine k h₄ _ D' _ n' _ F₄ N₄ (.inr hne) (good_slice hG) ?_ rfl hf
      rw [List.length_take, List.length_drop]; omega
    refine wpAny_execs_cons ?_
    refine wpAny_If (wpAny_isTrue_Compare1 (nameX_L F₂ ht (IfExp_ (wpAny_isTrue_Compare1 ?_))))
    refine wpAny_BinOp (nameX_L F₂ hf (wpAny_Constant_int (mod_int' (by decide) (wpAny_Constant_int (PyProof.Rows.eq_int (wpAny_truthy_bool ?_))))))
    cases hk : (a.fmod 2 == 0) with
    | true =>
      rw [hk] at hD₁
      simp only [if_true]
      refine nameX_L F₂ rfl ?_
      obtain ⟨bs, rb⟩ := row_reads (N₂ _ (.tail _ hB)).1 (N₂ _ (.tail _ hD₁)).1 (good_slice hG)
      refine ne_dataH (s := { s with heap := h₂, toks := _ }) rb ra (row_shaped (good_slice hG)) (row_shaped (good_slice hG)) hu (wpAny_truthy_bool ?_)
      rw [row_eqv (good_slice hG)]
      simp only [Bool.not_true, Bool.false_eq_true, if_false]
      exact wpAny_execs_nil (fin h₂ _ F₂ N₂)
    | false =>
      rw [hk] at hD₁
      simp only [Bool.false_eq_true, if_false]
      refine Call_ (nameX_B F₂ X (topRead_of T) rfl boot_tuple (by decide) ?_)
      refine PyProof.Rows.callWith_type1 ?_
      refine args_cons (he := by kernel_rfl) ?_
      refine nameX_L F₂ rfl (args_nil ?_)
      refine row_tuple F₂ N₂ (.head _) (fun D₃ n₃ h₃ F₃ N₃ => ?_) (by rw [List.length_take, List.length_drop]; omega)
      obtain ⟨bs, rb⟩ := row_reads (N₃ _ (.tail _ (.tail _ hB))).1 (N₃ _ (.tail _ (.tail _ hD₁))).1 (good_slice hG)
      obtain ⟨cs, rc⟩ := row_reads (N₃ _ (.tail _ (.tail _ hB))).1 (N₃ _ (.head _)).1 (good_slice hG)
      refine ne_dataH (s := { s with heap := h₃, toks := _ }) rb rc (row_shaped (good_slice hG)) (row_shaped (good_slice hG)) hu (wpAny_truthy_bool ?_)
      rw [row_eqv (good_slice hG)]
      simp only [Bool.not_true, Bool.false_eq_true, if_false]
      exact wpAny_execs_nil (fin h₃ _ F₃ (fun q hq => N₃ q (.tail _ hq)))
  · intro h₁ tk₁ t₁ hb F₁ N₁
    unfold Told at hT
    rw [hb] at hT
    obtain ⟨t₃, rfl⟩ := hT
    refine storeX_L F₁ N₁ (fun h₂ F₂ N₂ => ?_)
    refine wpAny_execs_cons ?_
    refine wpAny_If (wpAny_isTrue_Compare1 (nameX_L F₂ rfl (Constant_str (PyProof.Rows.eq_str (wpAny_truthy_bool ?_)))))
    simp only [beq_self_eq_true, if_true]
    refine wpAny_execs_cons ?_
    refine wpAny_If (wpAny_isTrue_Compare1 (nameX_L F₂ ht (nameX_L F₂ rfl (PyProof.Rows.ne_str (wpAny_truthy_bool ?_)))))
    simp only [bne_self_eq_false, Bool.false_eq_true, if_false]
    refine wpAny_execs_nil (wpAny_execs_nil (wpAny_execs_nil ?_))
    refine k h₂ _ R vs nR _ F₂ (fun q hq => ?_) (.inl rfl) hG hx hr hf
    rcases List.mem_cons.mp hq with rfl | hq
    · exact N₂ _ hR
    · exact N₂ q hq
end
end Mine
/- the law of 02: a turn, its first statements -/
namespace Mine
section
variable {prog : Program} {w : World} {E : Value → Shared → Prop} {s : Shared} {h₀ : Heap} {L fa : Addr} {m mg mb : Str → Option Value} {news : List (Addr × Obj)} {cd : Value} {Q : Flow → Shared → Prop} {p : Program} {loose : List Str} {mean : ExcName → Option Value}
  {R Bi D : Addr} {vs : List Value} {nR nD : Nat} {tb : Tok} {n a : Int} {tn t1 : Tok} {tv : Value}

/-- if first % 2 == 0: handed.append('put behind') -/
theorem st_put {kd : Bool} {extra : List (Addr × Obj)} (F : Fr h₀ L s.heap m) (N : News h₀ L s.heap (extra ++ news)) (hD : (D, rowObj kd vs nD) ∈ extra) (hx : vs.length ≤ 100) (hne : kd = true → ∀ q ∈ news, q.1 ≠ D)
    (hk : kd = (a.fmod 2 == 0)) (hf : m "first" = some (.int a t1)) (hh : m "handed" = some (.ref D)) (hT : Told kd vs n tv extra) (hTD : kd = true → ∀ D', tv = .ref D' → D' ≠ D)
    (k : ∀ h' tk tl, Fr h₀ L h' m → News h₀ L h' (tl ++ news) → Told kd vs n tv (tl ++ news) → wpAny (model prog w) (lawA L fa cd) (execs (turnB.drop 6) (lawE L fa cd)) Q E { s with heap := h', toks := tk }) :
    wpAny (model prog w) (lawA L fa cd) (execs (turnB.drop 5) (lawE L fa cd)) Q E s := by
  have hsl : sizeLine = 16777216 := rfl
  refine wpAny_execs_cons ?_
  refine wpAny_If (wpAny_isTrue_Compare1 ?_)
  refine wpAny_BinOp (nameX_L F hf (wpAny_Constant_int (mod_int' (by decide) (wpAny_Constant_int (PyProof.Rows.eq_int (wpAny_truthy_bool ?_))))))
  rw [← hk]
  have hT' : ∀ tl, (∀ q ∈ extra, q.1 ≠ D → q ∈ tl) → (kd = true) → Told kd vs n tv (tl ++ news) := by
    intro tl hsub hkd
    unfold Told at hT ⊢
    cases hb : stripB (code vs) n with
    | none => rw [hb] at hT; exact hT
    | some ab =>
      rw [hb] at hT
      obtain ⟨D', n', e, hm⟩ := hT
      exact ⟨D', n', e, List.mem_append_left _ (hsub _ hm (hTD hkd D' e))⟩
  cases kd with
  | true =>
    simp only [if_true]
    refine wpAny_execs_cons ?_
    refine wpAny_Expr ?_
    refine MethodCall_ (nameX_L F hh ?_)
    refine getMethod_append_N N (List.mem_append_left _ hD) ?_
    refine callWith_method1 ?_
    refine args_cons (he := by kernel_rfl) ?_
    refine Constant_str ?_
    refine args_nil ?_
    have z := N _ (List.mem_append_left _ hD)
    refine append_at (its := vs.toArray) (n := nD) z.1 (fun h' hs ho' => ?_) (by simp; omega)
    refine wpAny_execs_nil ?_
    refine k h' _ (extra.filter fun q => q.1 ≠ D) (F.change hs z.2.1 z.2.2) (fun q hq => ?_) (hT' _ (fun q hq h => List.mem_filter.mpr ⟨hq, by simpa using h⟩) rfl)
    have hq' : q ∈ extra ++ news ∧ q.1 ≠ D := by
      rcases List.mem_append.mp hq with hq | hq
      · obtain ⟨h1, h2⟩ := List.mem_filter.mp hq
        exact ⟨List.mem_append_left _ h1, by simpa using h2⟩
      · exact ⟨List.mem_append_right _ hq, hne rfl q hq⟩
    exact ⟨(hs.2 _ hq'.2).trans (N q hq'.1).1, (N q hq'.1).2⟩
  | false =>
    simp only [Bool.false_eq_true, if_false]
    refine wpAny_execs_nil ?_
    refine k s.heap _ extra F N ?_
    unfold Told at hT ⊢
    cases hb : stripB (code vs) n with
    | none => rw [hb] at hT; exact hT
    | some ab =>
      rw [hb] at hT
      obtain ⟨D', n', e, hm⟩ := hT
      exact ⟨D', n', e, List.mem_append_left _ hm⟩

/-- if list(handed) != row: return False -/
theorem st_same {kd : Bool} (F : Fr h₀ L s.heap m) (N : News h₀ L s.heap news) (X : (Mine.hd02.heap_39 w.params).In h₀) (T : Top p loose mean mg mb h₀) (hD : (D, rowObj kd vs nD) ∈ news) (hR : (R, rowObj true vs nR) ∈ news) (hB : inner Bi tb ∈ news) (hG : ∀ v ∈ vs, Good Bi v) (hx : vs.length ≤ 100)
    (hr : m "row" = some (.ref R)) (hh : m "handed" = some (.ref D))
    (k : ∀ h' tk, Fr h₀ L h' m → News h₀ L h' news → wpAny (model prog w) (lawA L fa cd) (execs (turnB.drop 5) (lawE L fa cd)) Q E { s with heap := h', toks := tk }) :
    wpAny (model prog w) (lawA L fa cd) (execs (turnB.drop 4) (lawE L fa cd)) Q E s := by
  have hsl : sizeLine = 16777216 := rfl
  have hu : (lawA L fa cd).units + 64 < cLine := Nat.le_of_ble_eq_true rfl
  refine wpAny_execs_cons ?_
  refine wpAny_If (wpAny_isTrue_Compare1 ?_)
  refine Call_ (nameX_B F X (topRead_of T) rfl boot_list (by decide) ?_)
  refine PyProof.Rows.callWith_type1 ?_
  refine args_cons (he := by kernel_rfl) ?_
  refine nameX_L F hh (args_nil ?_)
  refine row_list F N hD (fun D' n' h₁ F₁ N₁ _ => ?_) (by omega)
  refine nameX_L F₁ hr ?_
  obtain ⟨as, ra⟩ := row_reads (N₁ _ (.tail _ hB)).1 (N₁ _ (.head _)).1 hG
  obtain ⟨bs, rb⟩ := row_reads (N₁ _ (.tail _ hB)).1 (N₁ _ (.tail _ hR)).1 hG
  refine ne_dataH (s := { s with heap := h₁, toks := _ }) ra rb (row_shaped hG) (row_shaped hG) hu (wpAny_truthy_bool ?_)
  rw [row_eqv hG]
  simp only [Bool.not_true, Bool.false_eq_true, if_false]
  exact wpAny_execs_nil (k h₁ _ F₁ (fun q hq => N₁ q (.tail _ hq)))

/-- told = _law_told(handed, amount) -/
theorem st_told {kd : Bool} (B : Below callerA h₀ [] h₀) (F : Fr h₀ L s.heap m) (N : News h₀ L s.heap news) (X : (Mine.hd02.heap_39 w.params).In h₀) (T : Top p loose mean mg mb h₀)
    (hD : (D, rowObj kd vs nD) ∈ news) (hB : inner Bi tb ∈ news) (hG : ∀ v ∈ vs, Good Bi v) (hx : vs.length ≤ 100) (hh : m "handed" = some (.ref D)) (hn : m "amount" = some (.int n tn))
    (k : ∀ h' tk tv extra, Fr h₀ L h' (fun y => if y = Str.ofString "told" then some tv else m y) → News h₀ L h' (extra ++ news) → Told kd vs n tv (extra ++ news) → (kd = true → ∀ D', tv = .ref D' → ∀ q ∈ news, q.1 ≠ D') →
      wpAny (model prog w) (lawA L fa cd) (execs (turnB.drop 4) (lawE L fa cd)) Q E { s with heap := h', toks := tk }) :
    wpAny (model prog w) (lawA L fa cd) (execs (turnB.drop 3) (lawE L fa cd)) Q E s := by
  have hsl : sizeLine = 16777216 := rfl
  refine wpAny_execs_cons ?_
  refine wpAny_Assign_Name (hs := by kernel_rfl) ?_
  refine Call_ (nameX_K F X (topRead_of T) rfl ?_)
  refine callWith_K X (by rfl) ?_
  refine args_cons (he := by kernel_rfl) ?_
  refine nameX_L F hh ?_
  refine args_cons (he := by kernel_rfl) ?_
  refine nameX_L F hn (args_nil ?_)
  refine ⟨X.keeps F.keep, ?_⟩
  refine told02 B F X N T rfl rfl rfl (by show 1 + claimMargin + 1 + 1 < recursionLimit; decide) rfl (fun e e' => Nat.le_of_ble_eq_true rfl) (by omega) hD hB hG ?_ ?_
  · intro a b D' n' h₁ tk₁ news' hb F₁ N₁ hsub hD' hne
    refine storeX_L F₁ N₁ (fun h₂ F₂ N₂ => ?_)
    refine k h₂ _ _ [(D', rowObj kd ((vs.drop a).take (b - a)) n')] F₂ (fun q hq => ?_) ?_ (fun hk D'' e q hq => ?_)
    · rcases List.mem_cons.mp hq with rfl | hq
      · exact N₂ _ hD'
      · exact N₂ q (hsub q hq)
    · unfold Told
      rw [hb]
      exact ⟨D', n', rfl, .head _⟩
    · injection e with e
      exact e ▸ hne hk q hq
  · intro h₁ tk₁ t₁ hb F₁ N₁
    refine storeX_L F₁ N₁ (fun h₂ F₂ N₂ => ?_)
    refine k h₂ _ _ [] F₂ N₂ ?_ (fun hk D'' e => nomatch e)
    unfold Told
    rw [hb]
    exact ⟨_, rfl⟩

/-- handed = list(row) if first % 2 == 0 else tuple(row) -/
theorem st_hand (F : Fr h₀ L s.heap m) (N : News h₀ L s.heap news) (X : (Mine.hd02.heap_39 w.params).In h₀) (T : Top p loose mean mg mb h₀) (hR : (R, rowObj true vs nR) ∈ news) (hx : vs.length ≤ 100)
    (hr : m "row" = some (.ref R)) (hf : m "first" = some (.int a t1))
    (k : ∀ h' tk D nD, Fr h₀ L h' (fun y => if y = Str.ofString "handed" then some (.ref D) else m y) → News h₀ L h' ((D, rowObj (a.fmod 2 == 0) vs nD) :: news) → ((a.fmod 2 == 0) = true → ∀ q ∈ news, q.1 ≠ D) →
      wpAny (model prog w) (lawA L fa cd) (execs (turnB.drop 3) (lawE L fa cd)) Q E { s with heap := h', toks := tk }) :
    wpAny (model prog w) (lawA L fa cd) (execs (turnB.drop 2) (lawE L fa cd)) Q E s := by
  have hsl : sizeLine = 16777216 := rfl
  refine wpAny_execs_cons ?_
  refine wpAny_Assign_Name (hs := by kernel_rfl) ?_
  refine IfExp_ (wpAny_isTrue_Compare1 ?_)
  refine wpAny_BinOp (nameX_L F hf (wpAny_Constant_int (mod_int' (by decide) (wpAny_Constant_int (PyProof.Rows.eq_int (wpAny_truthy_bool ?_))))))
  cases hk : (a.fmod 2 == 0) with
  | true =>
    simp only [if_true]
    refine Call_ (nameX_B F X (topRead_of T) rfl boot_list (by decide) ?_)
    refine PyProof.Rows.callWith_type1 ?_
    refine args_cons (he := by kernel_rfl) ?_
    refine nameX_L F hr (args_nil ?_)
    refine row_list (s := { s with toks := _ }) F N hR (fun D n' h₁ F₁ N₁ hne => ?_) (by omega)
    refine storeX_L F₁ N₁ (fun h₂ F₂ N₂ => ?_)
    exact k h₂ _ D n' F₂ (hk ▸ N₂) (fun _ => hne)
  | false =>
    simp only [Bool.false_eq_true, if_false]
    refine Call_ (nameX_B F X (topRead_of T) rfl boot_tuple (by decide) ?_)
    refine PyProof.Rows.callWith_type1 ?_
    refine args_cons (he := by kernel_rfl) ?_
    refine nameX_L F hr (args_nil ?_)
    refine tuple_ofL (s := { s with toks := _ }) F N (row_isList (N _ hR).1) (fun D h₁ F₁ N₁ hlt => ?_) (by omega)
    refine storeX_L F₁ N₁ (fun h₂ F₂ N₂ => ?_)
    exact k h₂ _ D 0 F₂ (hk ▸ N₂) (fun h => by rw [hk] at h; cases h)

/-- amount = .. -/
theorem st_amount {x : Int} {tx : Tok} (F : Fr h₀ L s.heap m) (N : News h₀ L s.heap news) (hx : m "x" = some (.int x tx))
    (k : ∀ h' tk n tn m', Fr h₀ L h' m' → News h₀ L h' news → m' "amount" = some (.int n tn) → (∀ y, y ≠ Str.ofString "amount" → m' y = m y) →
      wpAny (model prog w) (lawA L fa cd) (execs (turnB.drop 2) (lawE L fa cd)) Q E { s with heap := h', toks := tk }) :
    wpAny (model prog w) (lawA L fa cd) (execs turnB (lawE L fa cd)) Q E s := by
  refine wpAny_execs_cons ?_
  refine wpAny_Assign_Name (hs := by kernel_rfl) ?_
  refine wpAny_BinOp (nameX_L F hx (wpAny_Constant_int (mod_int' (by decide) ?_)))
  refine storeX_L F N (fun h₁ F₁ N₁ => ?_)
  refine wpAny_execs_cons ?_
  refine wpAny_If (wpAny_isTrue_Compare1 ?_)
  refine wpAny_BinOp (wpAny_BinOp (nameX_L F₁ hx (wpAny_Constant_int (PyProof.Rows.floordiv_int (by decide) (wpAny_Constant_int (mod_int' (by decide) (wpAny_Constant_int (PyProof.Rows.eq_int (wpAny_truthy_bool ?_)))))))))
  cases (x.fdiv 7).fmod 30 == 29 with
  | true =>
    simp only [if_true]
    refine wpAny_execs_cons ?_
    refine wpAny_Assign_Name (hs := by kernel_rfl) ?_
    refine wpAny_BinOp (wpAny_UnaryOp (wpAny_Constant_int (PyProof.Rows.neg_int ?_)))
    refine wpAny_BinOp (nameX_L F₁ hx (wpAny_Constant_int (mod_int' (by decide) (PyProof.Rows.sub_int ?_))))
    refine storeX_L F₁ N₁ (fun h₂ F₂ N₂ => wpAny_execs_nil ?_)
    exact k h₂ _ _ _ _ F₂ N₂ rfl (fun y hy => (if_neg hy).trans (if_neg hy))
  | false =>
    simp only [Bool.false_eq_true, if_false]
    refine wpAny_execs_cons ?_
    refine wpAny_If (wpAny_isTrue_Compare1 ?_)
    refine wpAny_BinOp (wpAny_BinOp (nameX_L F₁ hx (wpAny_Constant_int (PyProof.Rows.floordiv_int (by decide) (wpAny_Constant_int (mod_int' (by decide) (wpAny_Constant_int (PyProof.Rows.eq_int (wpAny_truthy_bool ?_)))))))))
    cases (x.fdiv 7).fmod 30 == 28 with
    | true =>
      simp only [if_true]
      refine wpAny_execs_cons ?_
      refine wpAny_Assign_Name (hs := by kernel_rfl) ?_
      refine wpAny_Constant_int (storeX_L F₁ N₁ (fun h₂ F₂ N₂ => wpAny_execs_nil (wpAny_execs_nil ?_)))
      exact k h₂ _ _ _ _ F₂ N₂ rfl (fun y hy => (if_neg hy).trans (if_neg hy))
    | false =>
      simp only [Bool.false_eq_true, if_false]
      refine wpAny_execs_nil (wpAny_execs_nil ?_)
      exact k h₁ _ _ _ _ F₁ N₁ rfl (fun y hy => if_neg hy)
end
end Mine
/- the law of 02: a turn, the loop, the whole body -/
namespace Mine
section
variable {prog : Program} {w : World} {E : Value → Shared → Prop} {s : Shared} {h₀ : Heap} {L fa : Addr} {m mg mb : Str → Option Value} {news : List (Addr × Obj)} {cd : Value} {Q : Flow → Shared → Prop} {p : Program} {loose : List Str} {mean : ExcName → Option Value}
  {R Bi : Addr} {vs : List Value} {nR : Nat} {tb : Tok} {a x : Int} {tx t1 : Tok}

theorem st_turn (B : Below callerA h₀ [] h₀) (F : Fr h₀ L s.heap m) (N : News h₀ L s.heap news) (X : (Mine.hd02.heap_39 w.params).In h₀) (T : Top p loose mean mg mb h₀)
    (hR : (R, rowObj true vs nR) ∈ news) (hB : inner Bi tb ∈ news) (hG : ∀ v ∈ vs, Good Bi v) (hx : vs.length ≤ 100)
    (hr : m "row" = some (.ref R)) (hf : m "first" = some (.int a t1)) (hxx : m "x" = some (.int x tx))
    (k : ∀ h' tk R' vs' nR' m', Fr h₀ L h' m' → News h₀ L h' ((R', rowObj true vs' nR') :: news) → (R' = R ∨ ∀ q ∈ news, q.1 ≠ R') → (∀ v ∈ vs', Good Bi v) → vs'.length ≤ 100 → m' "row" = some (.ref R') → m' "first" = some (.int a t1) → Q .next { s with heap := h', toks := tk }) :
    wpAny (model prog w) (lawA L fa cd) (execs turnB (lawE L fa cd)) Q E s := by
  refine st_amount F N hxx ?_
  intro h₁ tk₁ n tn m₁ F₁ N₁ e1 e2
  refine st_hand (s := { s with heap := h₁, toks := tk₁ }) F₁ N₁ X T hR hx ((e2 _ (by decide)).trans hr) ((e2 _ (by decide)).trans hf) ?_
  intro h₂ tk₂ D nD F₂ N₂ hne
  refine st_told (s := { s with heap := h₂, toks := tk₂ }) B F₂ N₂ X T (.head _) (.tail _ hB) hG hx rfl ((if_neg (by decide)).trans e1) ?_
  intro h₃ tk₃ tv extra F₃ N₃ hT hTD
  have hr₃ : (fun y => if y = Str.ofString "told" then some tv else if y = Str.ofString "handed" then some (Value.ref D) else m₁ y) "row" = some (.ref R) := (if_neg (by decide)).trans ((if_neg (by decide)).trans ((e2 _ (by decide)).trans hr))
  have hf₃ : (fun y => if y = Str.ofString "told" then some tv else if y = Str.ofString "handed" then some (Value.ref D) else m₁ y) "first" = some (.int a t1) := (if_neg (by decide)).trans ((if_neg (by decide)).trans ((e2 _ (by decide)).trans hf))
  have hn₃ : (fun y => if y = Str.ofString "told" then some tv else if y = Str.ofString "handed" then some (Value.ref D) else m₁ y) "amount" = some (.int n tn) := (if_neg (by decide)).trans ((if_neg (by decide)).trans e1)
  have hh₃ : (fun y => if y = Str.ofString "told" then some tv else if y = Str.ofString "handed" then some (Value.ref D) else m₁ y) "handed" = some (.ref D) := (if_neg (by decide)).trans (if_pos rfl)
  refine st_same (s := { s with heap := h₃, toks := tk₃ }) F₃ N₃ X T (List.mem_append_right _ (.head _)) (List.mem_append_right _ (.tail _ hR)) (List.mem_append_right _ (.tail _ hB)) hG hx hr₃ hh₃ ?_
  intro h₄ tk₄ F₄ N₄
  have N₄' : News h₀ L h₄ ((extra ++ [(D, rowObj (a.fmod 2 == 0) vs nD)]) ++ news) := by rw [List.append_assoc]; exact N₄
  have hT' : Told (a.fmod 2 == 0) vs n tv ((extra ++ [(D, rowObj (a.fmod 2 == 0) vs nD)]) ++ news) := by rw [List.append_assoc]; exact hT
  -- all of the ledger is put behind, so that what is told may lie anywhere
  refine st_put (news := news) (s := { s with heap := h₄, toks := tk₄ }) (extra := (extra ++ [(D, rowObj (a.fmod 2 == 0) vs nD)]) ++ news) F₄ (fun q hq => ?_) (List.mem_append_left _ (List.mem_append_right _ (.head _))) hx hne rfl hf₃ hh₃ hT' (fun hk D' e => ?_) ?_
  · rcases List.mem_append.mp hq with hq | hq
    · exact N₄' q hq
    · exact N₄' q (List.mem_append_right _ hq)
  · exact (hTD hk D' e _ (.head _)).symm
  · intro h₅ tk₅ tl F₅ N₅ hT₅
    refine st_due (s := { s with heap := h₅, toks := tk₅ }) B F₅ N₅ X T (List.mem_append_right _ hR) (List.mem_append_right _ hB) hG hx hr₃ hn₃ hf₃ (if_pos rfl) hT₅ ?_
    intro h₆ tk₆ R' vs' nR' m₆ F₆ N₆ hor hG' hx' hr' hf'
    refine k h₆ tk₆ R' vs' nR' m₆ F₆ (fun q hq => ?_) (hor.imp id fun h q hq => h q (List.mem_append_right _ hq)) hG' hx' hr' hf'
    rcases List.mem_cons.mp hq with rfl | hq
    · exact N₆ _ (.head _)
    · exact N₆ q (.tail _ (List.mem_append_right _ hq))

/-- for x in script + [2, 3, 1]: .. -/
theorem st_loop {S : Addr} {us : List Value} {ms : List Int} (B : Below callerA h₀ [] h₀) (F : Fr h₀ L s.heap m) (N : News h₀ L s.heap news) (X : (Mine.hd02.heap_39 w.params).In h₀) (T : Top p loose mean mg mb h₀)
    (hR : (R, rowObj true vs nR) ∈ news) (hB : inner Bi tb ∈ news) (hG : ∀ v ∈ vs, Good Bi v) (hx : vs.length ≤ 100) (hS : (S, listOf (List.toArray us) 0) ∈ news) (hI : IntsAre us ms) (hlen : ms.length ≤ 63)
    (hs : m "script" = some (.ref S)) (hr : m "row" = some (.ref R)) (hf : m "first" = some (.int a t1))
    (k : ∀ h' tk m', Fr h₀ L h' m' → Q (.ret (.bool true)) { s with heap := h', toks := tk })
    (hE : PassesOwn (model prog w) (lawA L fa cd) (lawE L fa cd) E) :
    wpAny (model prog w) (lawA L fa cd) (execs (lawB.drop 5) (lawE L fa cd)) Q E s := by
  have hsl : sizeLine = 16777216 := rfl
  have hul : us.length = ms.length := hI.length
  refine wpAny_execs_cons ?_
  refine For_invV h₀ rfl rfl ?_ (by intro _; rfl) hE
  refine wpAny_BinOp (nameX_L F hs (List_ ?_))
  refine args_cons (he := by kernel_rfl) ?_
  refine wpAny_Constant_int ?_
  refine args_cons (he := by kernel_rfl) ?_
  refine wpAny_Constant_int ?_
  refine args_cons (he := by kernel_rfl) ?_
  refine wpAny_Constant_int ?_
  refine args_nil ?_
  refine newList_N F N (fun h₁ F₁ N₁ => ?_)
  refine add_lists F₁ N₁ (News.isList N₁ (.tail _ hS)) (News.isList N₁ (.head _)) (fun h₂ F₂ N₂ => ?_) (by simp; omega)
  have hI2 := hI.append (.cons 2 s.toks (.cons 3 (s.toks + 1) (.cons 1 (s.toks + 1 + 1) .nil)))
  generalize hws : us ++ [Value.int 2 s.toks, Value.int 3 (s.toks + 1), Value.int 1 (s.toks + 1 + 1)] = ws at hI2 N₂
  have hls : h₂.IsList h₁.objs.size ws.toArray := News.isList N₂ (.head _)
  refine wpAny_pyIter_list hls ?_
  have hne : h₁.objs.size ≠ h₂.objs.size := Nat.ne_of_lt (by obtain ⟨o, ho, _⟩ := hls; exact Heap.lt_size ho)
  have W := Walks.list (prog := prog) (w := w) (A := lawA L fa cd) rfl h₂.objs.size h₁.objs.size hne ws.toArray
  have N₃ : News h₀ L h₂ [(R, rowObj true vs nR), inner Bi tb] := fun q hq => by
    rcases List.mem_cons.mp hq with rfl | hq
    · exact N₂ _ (.tail _ (.tail _ hR))
    · obtain rfl := List.mem_singleton.mp hq
      exact N₂ _ (.tail _ (.tail _ hB))
  refine ⟨_, _, _, _, _, _, m, [(R, rowObj true vs nR), inner Bi tb], (fun _ m₁ nx => ∃ R' vs' nR', nx = [(R', rowObj true vs' nR'), inner Bi tb] ∧ (∀ v ∈ vs', Good Bi v) ∧ vs'.length ≤ 100 ∧ m₁ "row" = some (.ref R') ∧ m₁ "first" = some (.int a t1)), rfl, W, ?_, ?_, ?_,
    ⟨⟨_, Heap.get?_push_size _ rfl, rfl, rfl⟩, hls.at fun o e => Heap.get?_push_of_some _ e⟩, F₂.push _, (fun q hq => ⟨Heap.get?_push_of_some _ (N₃ q hq).1, (N₃ q hq).2⟩), ⟨R, vs, nR, rfl, hG, hx, hr, hf⟩, ?_, ?_⟩
  · intro hm
    rcases List.mem_cons.mp hm with e | hm
    · exact absurd F₂.ns.lt (e ▸ Nat.lt_irrefl _)
    · exact (N₂ _ (.head _)).2.1 ((List.mem_singleton.mp hm).symm)
  · intro b hb
    rw [List.mem_singleton.mp hb]
    exact next_is_new F₂
  · intro q hq hb
    exact absurd (Heap.lt_size (N₃ q hq).1) ((List.mem_singleton.mp hb) ▸ Nat.lt_irrefl _)
  · rintro i v m₁ news₁ s₁ own ⟨hh', tk', rfl⟩ hin hP ⟨R', vs', nR', rfl, hG', hx', hr', hf'⟩ hoff hown hget hall hst F₃ N₄
    obtain ⟨xx, tt, rfl⟩ : ∃ a t, v = .int a t := ints_itemA hI2 hP
    have hIo : ∃ o, hh'.get? h₂.objs.size = some o := by
      obtain ⟨⟨o, ho, _⟩, _⟩ := hst
      exact ⟨o, ho⟩
    obtain ⟨oI, hoI⟩ := hIo
    have hIown : (h₂.objs.size, oI) ∈ own := hall _ (.head _) (next_is_new F₂) oI hoI
    refine st_turn (s := { s with heap := hh', toks := tk' }) B F₃ N₄ X T (List.mem_append_right _ (.head _)) (List.mem_append_right _ (.tail _ (.head _))) hG' hx' ((if_neg (by decide)).trans hr') ((if_neg (by decide)).trans hf') (if_pos rfl) ?_
    intro h₅ tk₅ R₂ vs₂ nR₂ m₂ F₅ N₅ hor hG₂ hx₂ hr₂ hf₂
    refine .next (LoopStepU.intro (news₂ := [(R₂, rowObj true vs₂ nR₂), inner Bi tb]) F₅ (fun q hq => ?_) (fun q hq hb => ?_) ⟨R₂, vs₂, nR₂, rfl, hG₂, hx₂, hr₂, hf₂⟩)
    · rcases List.mem_append.mp hq with hq | hq
      · exact N₅ q (.tail _ (List.mem_append_left _ hq))
      · rcases List.mem_cons.mp hq with rfl | hq
        · exact N₅ _ (.head _)
        · exact N₅ q (.tail _ (List.mem_append_right _ (.tail _ hq)))
    · have hb := List.mem_singleton.mp hb
      rcases List.mem_cons.mp hq with rfl | hq
      · rcases hor with rfl | hor
        · exact hoff _ (.head _) (by rw [List.mem_singleton]; exact hb)
        · exact hor _ (List.mem_append_left _ hIown) hb.symm
      · exact hoff _ (.tail _ hq) (by rw [List.mem_singleton]; exact hb)
  · rintro h' tk m' news' F' N' _ _
    dsimp only
    refine wpAny_execs_cons ?_
    refine wpAny_Return_some (Constant_bool ?_)
    exact k h' tk m' F'

/-- the whole body -/
theorem law_body {o1 : Obj} {l : Addr} {vs : List Value} {ns : List Int} (B : Below callerA h₀ [] h₀) (F : Fr h₀ L s.heap m) (N : News h₀ L s.heap [(L + 1, o1)]) (X : (Mine.hd02.heap_39 w.params).In h₀) (T : Top p loose mean mg mb h₀)
    (hd1 : ∃ v, o1.data = .cell v) (hm : m "script" = some (.ref l)) (hl : h₀.IsList l vs.toArray) (hI : IntsAre vs ns) (hlen : ns.length ≤ 63)
    (k : ∀ h' tk m', Fr h₀ L h' m' → Q (.ret (.bool true)) { s with heap := h', toks := tk })
    (hE : PassesOwn (model prog w) (lawA L fa cd) (lawE L fa cd) E) :
    wpAny (model prog w) (lawA L fa cd) (execs lawB (lawE L fa cd)) Q E s := by
  have hu : (lawA L fa cd).units + 64 < cLine := Nat.le_of_ble_eq_true rfl
  refine st_a F N X (topRead_of T) hm hl hI hlen hu ?_
  intro h₁ tk₁ a b t1 t2 S us ms m₁ F₁ N₁ hI1 hl1 e1 e2 e3
  have hSL : S ≠ L + 1 := by
    intro e
    obtain ⟨v, hv⟩ := hd1
    have h1 := (N₁ _ (.head _)).1
    have h2 := (N₁ _ (.tail _ (.head _))).1
    simp only at h1 h2
    rw [e, h2] at h1
    have h3 := Option.some.inj h1
    rw [h3] at hv
    cases hv
  refine st_things (s := { s with heap := h₁, toks := tk₁ }) F₁ N₁ hd1 hSL ?_
  intro h₂ tk₂ Bi Tu tb t o' F₂ N₂ hd'
  refine st_row (s := { s with heap := h₂, toks := tk₂ }) F₂ N₂ (.head _) (.tail _ (.tail _ (.head _))) (.tail _ (.tail _ (.tail _ (.head _)))) hd' hI1 hl1 e1 e3 rfl ?_
  intro h₃ tk₃ R vs₃ nR F₃ N₃ hG hx
  refine st_loop (s := { s with heap := h₃, toks := tk₃ }) B F₃ N₃ X T (.head _) (.tail _ (.tail _ (.head _))) hG hx (.tail _ (.tail _ (.tail _ (.head _)))) hI1 hl1 ((if_neg (by decide)).trans e1) (if_pos rfl) ((if_neg (by decide)).trans e2) ?_ hE
  intro h' tk m' F'
  exact k h' tk m' F'
end
end Mine
theorem PySem.Challenge.cw_dm0204_02_holds : PySem.Challenge.rw_dm0204_02.Holds := by
  refine Mine.hd02 ?_
  k_go0
  rename Below _ _ _ _ => B
  rename Fr _ _ _ _ => F
  rename News _ _ _ _ => N
  rename Frag.In _ _ => X
  rename Top _ _ _ _ _ _ => T
  rename IntsAre _ _ => hI
  rename Heap.IsList _ _ _ => hl
  rename_i hd1 _
  refine Mine.law_body B F N X T ⟨_, hd1⟩ rfl hl hI (by omega) ?_ ?_
  · intro h' tk m' F'
    k_end
    wrow_close
  · passes_own
