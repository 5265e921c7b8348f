import PyProof.Rows.All
import Wide.All
import OpenK.AllK
import Wide.FinOn
import PySem.Challenge.RW_il0201_01
set_option Elab.async false
section
open PySem PySem.W PyProof.Rows
namespace Mine
set_option maxRecDepth 100000 in
set_option maxHeartbeats 8000000 in
open_top hd0201 for PySem.Challenge.rw_il0201_01
end Mine
end
/-! ## Pure0201 -/
section
open PySem PySem.W PyProof PyProof.Rows
namespace Mine
/-- what is told of the codes behind the opening quote -/
def tell : List Nat → List Nat
  | [] => []
  | c :: r => if c = 34 then (match r with | [] => [] | d :: r' => if d = 34 then 34 :: tell r' else []) else c :: tell r
theorem tell_other {c : Nat} {r : List Nat} (h : ¬ c = 34) : tell (c :: r) = c :: tell r := by
  rw [tell.eq_def]
  simp only [if_neg h]
theorem tell_two {r : List Nat} : tell (34 :: 34 :: r) = 34 :: tell r := by
  rw [tell.eq_def]
  simp
theorem tell_stop {d : Nat} {r : List Nat} (h : ¬ d = 34) : tell (34 :: d :: r) = [] := by
  rw [tell.eq_def]
  simp [h]
def parseF (x : Str) : Str := ⟨(tell (x.cps.toList.drop 5)).toArray⟩
def starts (x : Str) : Prop := x.length ≤ 16000000 ∧ x.cps.toList.take 5 = [50, 53, 55, 32, 34]
theorem len_co (x : Str) : x.length = x.cps.toList.length := by simp [Str.length]
theorem starts_len {x : Str} (h : starts x) : 5 ≤ x.length := by
  have h1 := congrArg List.length h.2
  simp only [List.length_take, List.length_cons, List.length_nil] at h1
  have := len_co x
  omega
theorem str_ext {x y : Str} (h : x.cps.toList = y.cps.toList) : x = y := Str.ext' (Array.toList_inj.mp h)
theorem starts3 {x : Str} (h : starts x) : Txt.slice x none (some 3) = Str.ofString "257" := by
  have h5 := starts_len h
  have hl := len_co x
  rw [beq_iff_eq.mp (slice_closes_to (x := x) (j := 3) ⟨by decide, by omega⟩)]
  apply str_ext
  have := congrArg (List.take 3) h.2
  rw [List.take_take] at this
  rw [show (Str.ofString "257").cps.toList = [50, 53, 55] from by decide]
  simpa using this
theorem starts5 {x : Str} (h : starts x) : Txt.slice x (some 3) (some 5) = Str.ofString " \"" := by
  have h5 := starts_len h
  have hl := len_co x
  rw [beq_iff_eq.mp (slice_closes (x := x) (i := 3) (j := 5) ⟨by decide, by decide, by omega⟩)]
  apply str_ext
  have := congrArg (List.drop 3) h.2
  rw [List.drop_take] at this
  rw [show (Str.ofString " \"").cps.toList = [32, 34] from by decide]
  simpa using this
theorem co_append (x y : Str) : (x ++ y).cps.toList = x.cps.toList ++ y.cps.toList := by
  rw [Str.cps_append, Array.toList_append]
theorem item_at {x : Str} {i : Int} (h0 : 0 ≤ i) (h1 : i < x.length) : ∃ c, x.cps.toList.drop i.toNat = c :: x.cps.toList.drop (i + 1).toNat ∧ Txt.item x i = ⟨#[c]⟩ ∧ x.cps.toList[i.toNat]? = some c := by
  have hl := len_co x
  have hi : i.toNat < x.cps.toList.length := by omega
  refine ⟨x.cps.toList[i.toNat], ?_, ?_, ?_⟩
  · have e : (i + 1).toNat = i.toNat + 1 := by omega
    rw [e]
    exact List.drop_eq_getElem_cons hi
  · unfold Txt.item Txt.charAt
    have e : seqIndex? i x.length = some i.toNat := by
      have h2 : ¬ i < 0 := by omega
      simp only [seqIndex?, h2, if_false]
      rw [if_pos (by simp only [Bool.and_eq_true, decide_eq_true_eq]; omega)]
    rw [e]
    have h3 : i.toNat < x.cps.size := by simpa using hi
    simp [h3]
  · simp
theorem quote_is : Str.ofString "\"" = ⟨#[34]⟩ := by decide
theorem one_eq {c d : Nat} : ((⟨#[c]⟩ : Str) == ⟨#[d]⟩) = decide (c = d) := by
  rw [Bool.eq_iff_iff]
  simp
def pInv (x : Str) (d : Str) (i : Int) : Prop := tell (x.cps.toList.drop 5) = d.cps.toList ++ tell (x.cps.toList.drop i.toNat)
theorem p_start {x : Str} (h : starts x) : (5 : Int) ≤ 5 ∧ (5 : Int) ≤ (x.length : Int) ∧ ((Str.ofString "").length : Int) ≤ 5 ∧ pInv x (Str.ofString "") 5 := by
  have h5 := starts_len h
  refine ⟨by decide, by omega, by decide, ?_⟩
  show _ = [] ++ _
  simp
theorem p_done {x d : Str} {i : Int} (h : pInv x d i) (ht : tell (x.cps.toList.drop i.toNat) = []) : d = parseF x := by
  unfold pInv at h
  rw [ht, List.append_nil] at h
  apply str_ext
  unfold parseF
  rw [h]
theorem p_end {x d : Str} {i : Int} (h : pInv x d i) (h0 : 5 ≤ i) (h1 : ¬ i < (x.length : Int)) : d = parseF x := by
  refine p_done h ?_
  have hl := len_co x
  rw [List.drop_eq_nil_of_le (by omega)]
  rfl
theorem p_quote_end {x d : Str} {i : Int} (h : pInv x d i) (h0 : 5 ≤ i) (h1 : i < (x.length : Int)) (hq : (Txt.item x i == Str.ofString "\"") = true) (h2 : (x.length : Int) ≤ i + 1) : d = parseF x := by
  refine p_done h ?_
  obtain ⟨c, e1, e2, _⟩ := item_at (by omega) h1
  rw [e2, quote_is, one_eq] at hq
  have hc := of_decide_eq_true hq
  have hl := len_co x
  rw [e1, List.drop_eq_nil_of_le (by omega : x.cps.toList.length ≤ (i + 1).toNat), hc]
  rfl
theorem p_quote_brk {x d : Str} {i : Int} (h : pInv x d i) (h0 : 5 ≤ i) (h1 : i < (x.length : Int)) (hq : (Txt.item x i == Str.ofString "\"") = true) (h2 : ¬ (x.length : Int) ≤ i + 1) (hr : (Txt.item x (i + 1) != Str.ofString "\"") = true) : d = parseF x := by
  refine p_done h ?_
  obtain ⟨c, e1, e2, _⟩ := item_at (by omega) h1
  obtain ⟨c', e1', e2', _⟩ := item_at (x := x) (i := i + 1) (by omega) (by omega)
  rw [e2, quote_is, one_eq] at hq
  rw [e2', quote_is, bne, one_eq] at hr
  have hc := of_decide_eq_true hq
  have hc' : ¬ c' = 34 := by simpa using hr
  rw [e1, e1', hc, tell_stop hc']
theorem p_two {x d : Str} {i : Int} (h : pInv x d i) (h0 : 5 ≤ i) (h1 : i < (x.length : Int)) (hd : (d.length : Int) ≤ i) (hq : (Txt.item x i == Str.ofString "\"") = true) (h2 : ¬ (x.length : Int) ≤ i + 1) (hr : (Txt.item x (i + 1) != Str.ofString "\"") = false) :
    (5 : Int) ≤ i + 1 + 1 ∧ i + 1 + 1 ≤ (x.length : Int) ∧ ((d ++ Txt.item x i).length : Int) ≤ i + 1 + 1 ∧ pInv x (d ++ Txt.item x i) (i + 1 + 1) := by
  obtain ⟨c, e1, e2, _⟩ := item_at (by omega) h1
  obtain ⟨c', e1', e2', _⟩ := item_at (x := x) (i := i + 1) (by omega) (by omega)
  rw [e2, quote_is, one_eq] at hq
  rw [e2', quote_is, bne, one_eq] at hr
  have hc := of_decide_eq_true hq
  have hc' : c' = 34 := by simpa using hr
  subst hc hc'
  refine ⟨by omega, by omega, ?_, ?_⟩
  · rw [Str.length_append, e2]
    show ((d.length + 1 : Nat) : Int) ≤ _
    omega
  · unfold pInv at h ⊢
    rw [h, e1, e1', e2, co_append, tell_two]
    simp
theorem p_sign {x d : Str} {i : Int} (h : pInv x d i) (h0 : 5 ≤ i) (h1 : i < (x.length : Int)) (hd : (d.length : Int) ≤ i) (hq : (Txt.item x i == Str.ofString "\"") = false) :
    (5 : Int) ≤ i + 1 ∧ i + 1 ≤ (x.length : Int) ∧ ((d ++ Txt.item x i).length : Int) ≤ i + 1 ∧ pInv x (d ++ Txt.item x i) (i + 1) := by
  obtain ⟨c, e1, e2, _⟩ := item_at (by omega) h1
  rw [e2, quote_is, one_eq] at hq
  have hc := of_decide_eq_false hq
  refine ⟨by omega, by omega, ?_, ?_⟩
  · rw [Str.length_append, e2]
    show ((d.length + 1 : Nat) : Int) ≤ _
    omega
  · unfold pInv at h ⊢
    rw [h, e1, e2, co_append, tell_other hc]
    simp
end Mine
end
/-! ## Rest0201 -/
section
open PySem PySem.W PyProof PyProof.Rows
namespace Mine
section
variable {prog : Program} {w : World} {A : Around} {s : Shared} {h₀ : Heap} {L : Addr} {m : Str → Option Value} {env : Env}
/-- the turns of a comprehension, whatever its items and what it makes: one turn for any item, and what the turns pile up -/
theorem rest_turns {α : Type} {elt : Expr} {x : Str} {scope : Scope} {cl : List (Str × Addr)} {S : List (Addr × Obj) → Prop} {P : Nat → Value → Prop} {Fin : List Value → List (Addr × Obj) → Prop} {news : List (Addr × Obj)}
    {items : List α} (isit out : α → Value → Prop) (Piled : List α → List Value → Prop)
    (hP : ∀ (i : Nat) (v : Value) (a : α), items[i]? = some a → P i v → isit a v) (none : Piled [] []) (more : ∀ l ys a y, Piled l ys → out a y → Piled (l ++ [a]) (ys ++ [y]))
    (turn : ∀ a v I oI C oC D m₂ ys h tk (E' : Value → Shared → Prop), a ∈ items → isit a v → LCg.NsObj oC m₂ → m₂ x = some v → Fr h₀ L h m → News h₀ L h ((I, oI) :: (C, oC) :: (D, LCg.lst ys) :: news) → LCg.Off3 I C D news → ((@Ne Nat I C) ∧ (@Ne Nat I D) ∧ (@Ne Nat C D)) →
      wpAny (model prog w) A (eval elt (compEnvC scope cl C env)) (LCg.CompEnd h₀ L m { s with heap := h, toks := tk } I oI C oC D (LCg.lst ys) S (fun y news' => news' = news ∧ out a y)) E' { s with heap := h, toks := tk })
    (fin : ∀ ys, Piled items ys → Fin ys news) : LCg.CompRest prog w A h₀ L m env elt x scope cl s S P Fin items.length 0 [] news := by
  suffices go : ∀ (left seen : List α) (ys : List Value), items = seen ++ left → Piled seen ys → LCg.CompRest prog w A h₀ L m env elt x scope cl s S P Fin left.length seen.length ys news from go items [] [] rfl none
  intro left
  induction left with
  | nil => exact fun seen ys e hp => LCg.CompRest.zero (fin ys (by rw [e, List.append_nil]; exact hp))
  | cons a left more_turns =>
    intro seen ys e hp
    have ha : items[seen.length]? = some a := by rw [e]; simp
    refine LCg.CompRest.succ fun v I oI C oC D m₂ h tk E' hv hC hx F N off ne => wpAny_mono (turn a v I oI C oC D m₂ ys h tk E' (List.mem_of_getElem? ha) (hP _ v a ha hv) hC hx F N off ne) (fun y s₂ q => ?_) fun _ _ q => q
    obtain ⟨h', tk', _, q1, q2, q3, q4, q5, rfl, q6⟩ := q
    have r := more_turns (seen ++ [a]) (ys ++ [y]) (by rw [e, List.append_assoc]; rfl) (more _ _ _ _ hp q6)
    rw [List.length_append] at r
    exact ⟨h', tk', _, q1, q2, q3, q4, q5, r⟩
end
end Mine
end
/-! ## Base0201 -/
section
open PySem PySem.W PyProof.Rows
namespace Mine
/-- what a call of a def of the text gives back -/
def Con (k : Nat) (w : World) (mean : ExcName → Option Value) (mg mb : Str → Option Value) (f : Addr) (vs : List Value) (Pre : List (Addr × Obj) → Prop) (R : Tok → Value) : Prop :=
  ∀ (news : List (Addr × Obj)) (dp un : Nat) (gd : Option (List Code)) (cn : Str) (cs : Scope) (a : Addr) (ccd : Value) (cl : List (Str × Addr)) (outer : List Env) (A₀ : Around) (base h₀ : Heap) (L : Addr) (m : Str → Option Value) (s : Shared) (Q E : Value → Shared → Prop),
    Below A₀ base outer h₀ → Fr h₀ L s.heap m → (hd0201.heap_39 w.params).In h₀ → News h₀ L s.heap news → Top hd0201.view_39 (looseW hd0201.view_39 []) mean mg mb h₀ → cs.kind = .function →
    dp + k < recursionLimit → un + 8 * k < cLine → Pre news →
    (∀ (t : Tok) (h' : Heap) (tk' : Nat), Fr h₀ L h' m → News h₀ L h' news → Q (R t) { s with heap := h', toks := tk' }) →
    wpAny (model PySem.Challenge.rw_il0201_01.row.prog w) (ktrTop dp un gd cn cs L a ccd cl outer) (call (.ref f) vs) Q E s
end Mine
namespace Mine
theorem Con.use {k : Nat} {w : World} {mean : ExcName → Option Value} {mg mb : Str → Option Value} {f : Addr} {vs : List Value} {Pre : List (Addr × Obj) → Prop} {R : Tok → Value} (C : Con k w mean mg mb f vs Pre R)
    {news : List (Addr × Obj)} {dp un : Nat} {gd : Option (List Code)} {cn : Str} {cs : Scope} {a : Addr} {ccd : Value} {cl : List (Str × Addr)} {outer : List Env} {A₀ : Around} {base h₀ : Heap} {L : Addr} {m : Str → Option Value} {s : Shared} {Q E : Value → Shared → Prop}
    (B : Below A₀ base outer h₀) (F : Fr h₀ L s.heap m) (X : (hd0201.heap_39 w.params).In h₀) (N : News h₀ L s.heap news) (T : Top hd0201.view_39 (looseW hd0201.view_39 []) mean mg mb h₀) (hk : cs.kind = .function)
    (hd : dp + k < recursionLimit) (hu : un + 8 * k < cLine) (hp : Pre news)
    (ret : ∀ (t : Tok) (h' : Heap) (tk' : Nat), Fr h₀ L h' m → News h₀ L h' news → Q (R t) { s with heap := h', toks := tk' }) :
    wpAny (model PySem.Challenge.rw_il0201_01.row.prog w) (ktrTop dp un gd cn cs L a ccd cl outer) (call (.ref f) vs) Q E s :=
  C _ _ _ _ _ _ _ _ _ _ _ _ _ _ _ _ _ _ B F X N T hk hd hu hp ret
end Mine
end
/-! ## PureB0201 -/
section
open PySem PySem.W PyProof PyProof.Rows
namespace Mine
def one (c : Nat) : Str := ⟨#[c]⟩
def asciiF (c : Nat) : Str := one (c % 128)
def ctrlF (c : Nat) : Str := one (c % 32)
def altF (c : Nat) : Str := one (c % 128 + 128)
/-- the signs that unctrl makes of a code -/
def pic (c : Nat) : List Nat := if c = 127 then [94, 63] else (if 127 < c then [33] else []) ++ (if c % 128 = 127 then [94, 159] else if c % 128 < 32 then [94, c % 128 + 64] else [c % 128])
def unctrlF (c : Nat) : Str := ⟨(pic c).toArray⟩
theorem and127 {c : Nat} (h : c < 256) : Builtin.bitAnd (c : Int) 127 = ((c % 128 : Nat) : Int) := (by decide +kernel : ∀ c : Nat, c < 256 → Builtin.bitAnd (c : Int) 127 = ((c % 128 : Nat) : Int)) c h
theorem and31 {c : Nat} (h : c < 256) : Builtin.bitAnd (c : Int) 31 = ((c % 32 : Nat) : Int) := (by decide +kernel : ∀ c : Nat, c < 256 → Builtin.bitAnd (c : Int) 31 = ((c % 32 : Nat) : Int)) c h
theorem or128 {c : Nat} (h : c < 256) : Builtin.bitOr (c : Int) 128 = ((c % 128 + 128 : Nat) : Int) := (by decide +kernel : ∀ c : Nat, c < 256 → Builtin.bitOr (c : Int) 128 = ((c % 128 + 128 : Nat) : Int)) c h
theorem and128 {c : Nat} (h : c < 256) : Builtin.bitAnd (c : Int) 128 = if 127 < c then 128 else 0 := (by decide +kernel : ∀ c : Nat, c < 256 → Builtin.bitAnd (c : Int) 128 = if 127 < c then 128 else 0) c h
theorem or32 {c : Nat} (h : c < 256) : Builtin.bitOr ((c % 128 : Nat) : Int) 32 + 32 = (((c % 128) ||| 32) + 32 : Nat) := (by decide +kernel : ∀ c : Nat, c < 256 → Builtin.bitOr ((c % 128 : Nat) : Int) 32 + 32 = (((c % 128) ||| 32) + 32 : Nat)) c h
theorem or32_range {c : Nat} (h : c < 256) : 0 ≤ Builtin.bitOr (Builtin.bitAnd (c : Int) 127) 32 + 32 ∧ Builtin.bitOr (Builtin.bitAnd (c : Int) 127) 32 + 32 ≤ 1114111 := (by decide +kernel : ∀ c : Nat, c < 256 → 0 ≤ Builtin.bitOr (Builtin.bitAnd (c : Int) 127) 32 + 32 ∧ Builtin.bitOr (Builtin.bitAnd (c : Int) 127) 32 + 32 ≤ 1114111) c h
theorem un1 {c : Nat} (h : c < 256) (h1 : (c : Int) = 127) (h2 : Builtin.bitAnd (c : Int) 128 ≠ 0) : Str.ofString "!" ++ Str.ofString "^?" = unctrlF c :=
  (by decide +kernel : ∀ c : Nat, c < 256 → (c : Int) = 127 → Builtin.bitAnd (c : Int) 128 ≠ 0 → Str.ofString "!" ++ Str.ofString "^?" = unctrlF c) c h h1 h2
theorem un2 {c : Nat} (h : c < 256) (h1 : (c : Int) = 127) : Str.ofString "^?" = unctrlF c :=
  (by decide +kernel : ∀ c : Nat, c < 256 → (c : Int) = 127 → Str.ofString "^?" = unctrlF c) c h h1
theorem un3 {c : Nat} (h : c < 256) (h1 : (c : Int) ≠ 127) (h3 : 32 ≤ Builtin.bitAnd (c : Int) 127 ∧ Builtin.bitAnd (c : Int) 127 ≤ 126) (h2 : Builtin.bitAnd (c : Int) 128 ≠ 0) : Str.ofString "!" ++ ⟨#[(Builtin.bitAnd (c : Int) 127).toNat]⟩ = unctrlF c :=
  (by decide +kernel : ∀ c : Nat, c < 256 → (c : Int) ≠ 127 → (32 ≤ Builtin.bitAnd (c : Int) 127 ∧ Builtin.bitAnd (c : Int) 127 ≤ 126) → Builtin.bitAnd (c : Int) 128 ≠ 0 → Str.ofString "!" ++ ⟨#[(Builtin.bitAnd (c : Int) 127).toNat]⟩ = unctrlF c) c h h1 h3 h2
theorem un4 {c : Nat} (h : c < 256) (h1 : (c : Int) ≠ 127) (h3 : 32 ≤ Builtin.bitAnd (c : Int) 127 ∧ Builtin.bitAnd (c : Int) 127 ≤ 126) (h2 : Builtin.bitAnd (c : Int) 128 = 0) : (⟨#[(Builtin.bitAnd (c : Int) 127).toNat]⟩ : Str) = unctrlF c :=
  (by decide +kernel : ∀ c : Nat, c < 256 → (c : Int) ≠ 127 → (32 ≤ Builtin.bitAnd (c : Int) 127 ∧ Builtin.bitAnd (c : Int) 127 ≤ 126) → Builtin.bitAnd (c : Int) 128 = 0 → (⟨#[(Builtin.bitAnd (c : Int) 127).toNat]⟩ : Str) = unctrlF c) c h h1 h3 h2
theorem un5 {c : Nat} (h : c < 256) (h1 : (c : Int) ≠ 127) (h3 : ¬ (32 ≤ Builtin.bitAnd (c : Int) 127 ∧ Builtin.bitAnd (c : Int) 127 ≤ 126)) (h2 : Builtin.bitAnd (c : Int) 128 ≠ 0) : Str.ofString "!" ++ (Str.ofString "^" ++ ⟨#[(Builtin.bitOr (Builtin.bitAnd (c : Int) 127) 32 + 32).toNat]⟩) = unctrlF c :=
  (by decide +kernel : ∀ c : Nat, c < 256 → (c : Int) ≠ 127 → ¬ (32 ≤ Builtin.bitAnd (c : Int) 127 ∧ Builtin.bitAnd (c : Int) 127 ≤ 126) → Builtin.bitAnd (c : Int) 128 ≠ 0 → Str.ofString "!" ++ (Str.ofString "^" ++ ⟨#[(Builtin.bitOr (Builtin.bitAnd (c : Int) 127) 32 + 32).toNat]⟩) = unctrlF c) c h h1 h3 h2
theorem un6 {c : Nat} (h : c < 256) (h1 : (c : Int) ≠ 127) (h3 : ¬ (32 ≤ Builtin.bitAnd (c : Int) 127 ∧ Builtin.bitAnd (c : Int) 127 ≤ 126)) (h2 : Builtin.bitAnd (c : Int) 128 = 0) : Str.ofString "^" ++ ⟨#[(Builtin.bitOr (Builtin.bitAnd (c : Int) 127) 32 + 32).toNat]⟩ = unctrlF c :=
  (by decide +kernel : ∀ c : Nat, c < 256 → (c : Int) ≠ 127 → ¬ (32 ≤ Builtin.bitAnd (c : Int) 127 ∧ Builtin.bitAnd (c : Int) 127 ≤ 126) → Builtin.bitAnd (c : Int) 128 = 0 → Str.ofString "^" ++ ⟨#[(Builtin.bitOr (Builtin.bitAnd (c : Int) 127) 32 + 32).toNat]⟩ = unctrlF c) c h h1 h3 h2
end Mine
end
/-! ## Comp0201 -/
section
open PySem PySem.W PyProof PyProof.Rows PySem.Spec PySem.Calls
namespace Mine
section
variable {prog : Program} {w : World} {A : Around} {E : Value → Shared → Prop} {s : Shared} {h₀ : Heap} {L : Addr} {m : Str → Option Value} {env : Env}
/-- a comprehension over a text: what its source must be -/
def TxtSrc (prog : Program) (w : World) (A : Around) (h₀ : Heap) (L : Addr) (m : Str → Option Value) (env : Env) (elt : Expr) (x : Str) (scope : Scope) (cl : List (Str × Addr)) (Fin : Shared → List Value → List (Addr × Obj) → Prop) (xv : Value) (s₁ : Shared) : Prop :=
  ∃ xt t news, xv = .str xt t ∧ A.handled = none ∧ Fr h₀ L s₁.heap m ∧ News h₀ L s₁.heap news ∧ xt.length ≤ sizeLine ∧
    ∀ s₂ : Shared, (∃ h, s₂ = { s₁ with heap := h }) → LCg.CompRest prog w A h₀ L m env elt x scope cl s₂ (fun _ => True) (SignAt xt) (Fin s₂) xt.cps.size 0 [] news
theorem txt_walks {I : Addr} (hh : A.handled = none) (x : Str) (t : Tok) : Walks prog w A I [I] [I] x.cps.size (SignAt x) (fun i h => h.IsStrIter I (strIterType x) x t i) := by
  cases ha : x.cps.all (· < 128)
  · have e : strIterType x = "str_iterator" := by simp [strIterType, ha]
    rw [e]
    exact Walks.strWide hh I x t
  · have e : strIterType x = "str_ascii_iterator" := by simp [strIterType, ha]
    rw [e]
    exact Walks.strAscii hh I x t
theorem ListComp_T {elt iter : Expr} {x : Str} {px : Pos} {scope : Scope} {cl : List (Str × Addr)} {pos : Pos} {Q : Value → Shared → Prop} (_F₀ : Fr h₀ L s.heap m)
    (hclos : closureFor scope env = pure cl) (hcell : ∀ y ∈ scope.names, y.2 ≠ .cell) (hkind : scope.kind = .function)
    (hnames : ∀ y ∈ scope.names, y.2 = .local → scope.names.lookup y.1 = some .local) (hx : scope.names.lookup x = some .local)
    (h : wpAny (model prog w) A (eval iter env) (TxtSrc prog w A h₀ L m env elt x scope cl (fun s₂ => LCg.FinE h₀ L m s₂ Q)) E s)
    (hs : ∀ x, foldedSetIterable iter env x = pure x := by intro _; rfl) :
    wpAny (model prog w) A (eval (.ListComp elt [⟨.Name x px, iter, [], 0⟩] scope pos) env) Q E s := by
  rw [eval_ListComp]
  refine wpAny_comprehension_free (use := none) rfl hs hclos hkind hnames (wpAny_mono h (fun xv s₁ h₁ => ?_) fun _ _ e => e)
  obtain ⟨xt, t, news, rfl, hh, F, N, hsz, R⟩ := h₁
  refine wpAny_pyIter_strU ?_
  refine LCg.block_U (txt_walks hh xt t) hsz (fun i h st => by obtain ⟨o, e, _⟩ := st; exact ⟨o, e⟩) (fun i h h' o nw st e e' _ _ _ => ?_) hcell hkind hx ⟨_, Heap.get?_push_size _ rfl, rfl, rfl⟩ (fun b hb => ?_)
    (F.keeps fun _ _ e => Heap.get?_push_of_some _ e) (N.grown fun _ _ e => Heap.get?_push_of_some _ e) (Nat.ne_of_lt F.ns.lt) (next_is_new F) (fun p hp => Nat.ne_of_lt (Heap.lt_size (N p hp).1)) trivial (R _ ⟨_, rfl⟩) ?_
  · obtain ⟨o', q, r⟩ := st
    rw [e] at q
    cases q
    exact ⟨o, e', r⟩
  · rw [List.mem_singleton.mp hb]
    show s₁.heap.objs.size < (s₁.heap.push _).objs.size
    rw [Heap.size_push]; exact Nat.lt_succ_self _
  · intro D C h tk m' ys news' F' N' o1 hn hC₀ hD₀ hCL hDL hCD offC fin
    refine ⟨m', hn, fun h'' hs'' => fin D h'' tk (F'.change hs'' hCL hC₀) (fun p hp => ?_) o1⟩
    refine ⟨hs''.extBut _ _ ?_ (N' p hp).1, (N' p hp).2⟩
    rcases List.mem_cons.mp hp with rfl | hp
    · exact Ne.symm hCD
    · exact offC p hp
theorem txt_rest {elt : Expr} {x : Str} {scope : Scope} {cl : List (Str × Addr)} {xt : Str} {S : List (Addr × Obj) → Prop} {Fin : List Value → List (Addr × Obj) → Prop} {news : List (Addr × Obj)} (g : Nat → Str)
    (turn : ∀ c t I oI C oC D m₂ ys h tk (E' : Value → Shared → Prop), c ∈ xt.cps.toList → LCg.NsObj oC m₂ → m₂ x = some (.str ⟨#[c]⟩ t) → Fr h₀ L h m → News h₀ L h ((I, oI) :: (C, oC) :: (D, LCg.lst ys) :: news) → LCg.Off3 I C D news → ((@Ne Nat I C) ∧ (@Ne Nat I D) ∧ (@Ne Nat C D)) →
      wpAny (model prog w) A (eval elt (compEnvC scope cl C env)) (LCg.CompEnd h₀ L m { s with heap := h, toks := tk } I oI C oC D (LCg.lst ys) S (fun y news' => news' = news ∧ ∃ t : Tok, y = .str (g c) t)) E' { s with heap := h, toks := tk })
    (fin : ∀ ys, StrsAre ys (xt.cps.toList.map g) → Fin ys news) : LCg.CompRest prog w A h₀ L m env elt x scope cl s S (SignAt xt) Fin xt.cps.size 0 [] news := by
  have r := rest_turns (s := s) (P := SignAt xt) (Fin := Fin) (items := xt.cps.toList) (fun c v => ∃ t : Tok, v = .str ⟨#[c]⟩ t) (fun c y => ∃ t : Tok, y = .str (g c) t) (fun l ys => StrsAre ys (l.map g))
    (fun i v c hc hv => by
      obtain ⟨c', t, e, rfl⟩ := hv
      have e' : xt.cps.toList[i]? = some c' := by simpa using e
      rw [hc] at e'
      exact ⟨t, by rw [Option.some.inj e']⟩)
    .nil (fun l ys c y hp ⟨t, e⟩ => by rw [e, List.map_append]; exact kct_snoc hp)
    (fun c v I oI C oC D m₂ ys h tk E' hc hv hC hx F N off ne => by
      obtain ⟨t, rfl⟩ := hv
      exact turn c t I oI C oC D m₂ ys h tk E' hc hC hx F N off ne) fin
  have hl : xt.cps.size = xt.cps.toList.length := by simp
  rw [hl]
  exact r
end
end Mine
namespace Mine
theorem join_nil_flat : ∀ ys : List Str, Txt.join (Str.ofString "") ys = ⟨(ys.flatMap fun y => y.cps.toList).toArray⟩ := by
  intro ys
  unfold Txt.join
  rw [StrLaws.glued_eq_join, show (Str.ofString "" : Str) = ⟨#[]⟩ from by decide]
  induction ys with
  | nil => rfl
  | cons a r ih =>
    rw [PyProof.Rows.join_nil_cons, ih]
    apply str_ext
    rw [co_append]
    simp
theorem chr_join (ns : List Int) : Txt.join (Str.ofString "") (ns.map fun c : Int => (⟨#[c.toNat]⟩ : Str)) = ⟨(ns.map Int.toNat).toArray⟩ := by
  rw [join_nil_flat, List.flatMap_map]
  congr 2
  induction ns with
  | nil => rfl
  | cons a r ih => rw [List.flatMap_cons, ih, List.map_cons]; rfl
theorem chr_join_eq {x : Str} {ns : List Int} (e : x.cps.toList = ns.map Int.toNat) : (x == Txt.join (Str.ofString "") (ns.map fun c : Int => (⟨#[c.toNat]⟩ : Str))) = true := by
  rw [chr_join, beq_iff_eq]
  exact str_ext e
theorem sum_len_le {α : Type} (g : α → Str) (k : Nat) (h : ∀ a, (g a).length ≤ k) : ∀ l : List α, ((l.map g).map (·.length)).sum ≤ k * l.length := by
  intro l
  induction l with
  | nil => simp
  | cons a r ih =>
    have := h a
    simp only [List.map_cons, List.sum_cons, List.length_cons, Nat.mul_add, Nat.mul_one]
    omega
end Mine
namespace Mine
theorem list_item {prog : Program} {w : World} {A : Around} {E : Value → Shared → Prop} {s : Shared} {value slice : PySem.Expr} {l : Addr} {vs : List Value} {ns : List Int} {q : Int} {u : Tok} {Q : Value → Shared → Prop} {h₀ : Heap} {L : Addr} {news : List (Addr × Obj)} {n : Nat}
    (N : News h₀ L s.heap news) (hm : (l, W.listOf vs.toArray n) ∈ news) (hi : IntsAre vs ns) (h0 : 0 ≤ q) (hq : q < (ns.length : Int)) (hfit : ns.length < 2 ^ 62)
    (h : ∀ k t, ns[q.toNat]? = some k → Q (.int k t) s)
    (hs : subscripted slice false (.ref l) (.int q u) = operate [.ref l, .int q u] (getItem (.ref l) (.int q u)) := by with_unfolding_all rfl) :
    wpAny (model prog w) A (subscriptTail value slice (.ref l) (.int q u)) Q E s := by
  have hl : s.heap.IsList l vs.toArray := ⟨_, (N _ hm).1, rfl, n, rfl⟩
  have hlt : q.toNat < ns.length := by omega
  have hk : ns[q.toNat]? = some ns[q.toNat] := by simp [hlt]
  obtain ⟨t, hv⟩ := hi.get q.toNat ns[q.toNat] hk
  exact tail_any hl.typeIs slot_list_getitem.lookup (wpAny_getItem_list hl h0 (by omega) (by simpa using hv) (h _ t hk)) hs
end Mine
namespace Mine
section
variable {prog : Program} {w : World} {A : Around} {E : Value → Shared → Prop} {s : Shared} {h₀ : Heap} {L : Addr} {m : Str → Option Value} {env : Env}
theorem StrsAre_at : ∀ {vs : List Value} {ss : List Str}, StrsAre vs ss → ∀ (i : Nat) (v : Value), vs[i]? = some v → ∃ y t, v = .str y t ∧ ss[i]? = some y
  | _, _, .nil, i, v, h => by simp at h
  | _, _, .cons y t _, 0, v, h => ⟨y, t, by simpa using h.symm, rfl⟩
  | _, _, .cons _ _ r, i + 1, v, h => StrsAre_at r i v (by simpa using h)
/-- an item of a made list of texts, in bounds -/
theorem str_item {value slice : PySem.Expr} {l : Addr} {vs : List Value} {ss : List Str} {q : Int} {u : Tok} {Q : Value → Shared → Prop} {news : List (Addr × Obj)} {n : Nat}
    (N : News h₀ L s.heap news) (hm : (l, W.listOf vs.toArray n) ∈ news) (hi : StrsAre vs ss) (h0 : 0 ≤ q) (hq : q < (ss.length : Int)) (hfit : ss.length < 2 ^ 62)
    (h : ∀ y t, ss[q.toNat]? = some y → Q (.str y t) s)
    (hs : subscripted slice false (.ref l) (.int q u) = operate [.ref l, .int q u] (getItem (.ref l) (.int q u)) := by with_unfolding_all rfl) :
    wpAny (model prog w) A (subscriptTail value slice (.ref l) (.int q u)) Q E s := by
  have hl : s.heap.IsList l vs.toArray := ⟨_, (N _ hm).1, rfl, n, rfl⟩
  have hlt : q.toNat < vs.length := by rw [hi.length]; omega
  have hk : vs[q.toNat]? = some vs[q.toNat] := by simp [hlt]
  obtain ⟨y, t, hv, hy⟩ := StrsAre_at hi q.toNat _ hk
  exact tail_any hl.typeIs slot_list_getitem.lookup (wpAny_getItem_list hl h0 (by omega) (by simpa using hk) (hv ▸ h y t hy)) hs
/-- the turns of a comprehension over texts that makes ints -/
theorem strs_rest {elt : Expr} {x : Str} {scope : Scope} {cl : List (Str × Addr)} {vs : List Value} {ss : List Str} {S : List (Addr × Obj) → Prop} {Fin : List Value → List (Addr × Obj) → Prop} {news : List (Addr × Obj)} (g : Str → Int) (hi : StrsAre vs ss)
    (turn : ∀ c t I oI C oC D m₂ ys h tk (E' : Value → Shared → Prop), c ∈ ss → LCg.NsObj oC m₂ → m₂ x = some (.str c t) → Fr h₀ L h m → News h₀ L h ((I, oI) :: (C, oC) :: (D, LCg.lst ys) :: news) → LCg.Off3 I C D news → ((@Ne Nat I C) ∧ (@Ne Nat I D) ∧ (@Ne Nat C D)) →
      wpAny (model prog w) A (eval elt (compEnvC scope cl C env)) (LCg.CompEnd h₀ L m { s with heap := h, toks := tk } I oI C oC D (LCg.lst ys) S (fun y news' => news' = news ∧ ∃ t : Tok, y = .int (g c) t)) E' { s with heap := h, toks := tk })
    (fin : ∀ ys, IntsAre ys (ss.map g) → Fin ys news) : LCg.CompRest prog w A h₀ L m env elt x scope cl s S (fun i v => vs.toArray[i]? = some v) Fin vs.toArray.size 0 [] news := by
  have r := rest_turns (s := s) (P := fun i v => vs.toArray[i]? = some v) (Fin := Fin) (items := ss) (fun c v => ∃ t : Tok, v = .str c t) (fun c y => ∃ t : Tok, y = .int (g c) t) (fun l ys => IntsAre ys (l.map g))
    (fun i v c hc hv => by
      obtain ⟨c', t, rfl, e⟩ := StrsAre_at hi i v (by simpa using hv)
      rw [hc] at e
      exact ⟨t, by rw [Option.some.inj e]⟩)
    .nil (fun l ys c y hp ⟨t, e⟩ => by rw [e, List.map_append]; exact hp.append (.cons _ _ .nil))
    (fun c v I oI C oC D m₂ ys h tk E' hc hv hC hx F N off ne => by
      obtain ⟨t, rfl⟩ := hv
      exact turn c t I oI C oC D m₂ ys h tk E' hc hC hx F N off ne) fin
  have hl : vs.toArray.size = ss.length := by rw [List.size_toArray]; exact hi.length
  rw [hl]
  exact r
end
end Mine
namespace Mine
theorem off1_mem {D : Addr} : ∀ {l : List (Addr × Obj)}, LCg.Off1 D l → ∀ p ∈ l, p.1 ≠ D
  | [], _, _, h => nomatch h
  | _ :: _, x, p, h => by
    rcases List.mem_cons.mp h with rfl | h
    · exact x.1
    · exact off1_mem x.2 p h
end Mine
end
/-! ## PureT0201 -/
section
open PySem PySem.W PyProof PyProof.Rows
namespace Mine
def tInv (ns : List Int) (d : Str) (p : Int) : Prop := tell (ns.map Int.toNat) = d.cps.toList ++ tell ((ns.drop p.toNat).map Int.toNat)
theorem t_start (ns : List Int) : (0 : Int) ≤ 0 ∧ (0 : Int) ≤ (ns.length : Int) + 1 ∧ ((Str.ofString "").length : Int) ≤ 0 ∧ tInv ns (Str.ofString "") 0 := by
  refine ⟨by decide, by omega, by decide, ?_⟩
  show _ = [] ++ _
  simp
/-- the slice of one place is the code at it -/
theorem slice_one {ns : List Int} {q : Int} (h0 : 0 ≤ q) (h1 : q < (ns.length : Int)) : List.take (min (q + 1).toNat ns.length - q.toNat) (List.drop q.toNat ns) = [ns.getD q.toNat 0] := by
  have hq : q.toNat < ns.length := by omega
  have e : min (q + 1).toNat ns.length - q.toNat = 1 := by omega
  rw [e, List.drop_eq_getElem_cons hq, List.getD_eq_getElem?_getD, List.getElem?_eq_getElem hq]
  rfl
theorem slice_none {ns : List Int} {q : Int} (h1 : q = (ns.length : Int)) : List.take (min (q + 1).toNat ns.length - q.toNat) (List.drop q.toNat ns) = [] := by
  rw [List.drop_eq_nil_of_le (by omega)]
  simp
theorem slice_is {ns : List Int} {q v : Int} (h0 : 0 ≤ q) (h2 : q ≤ (ns.length : Int)) (e : List.take (min (q + 1).toNat ns.length - q.toNat) (List.drop q.toNat ns) = [v]) : q < (ns.length : Int) ∧ ns[q.toNat]? = some v := by
  by_cases h : q < (ns.length : Int)
  · refine ⟨h, ?_⟩
    rw [slice_one h0 h] at e
    have hq : q.toNat < ns.length := by omega
    simp [hq] at e ⊢
    exact e
  · rw [slice_none (by omega)] at e
    cases e
theorem t_inner0 {ns : List Int} {p : Int} (h0 : 0 ≤ p) (h1 : p < (ns.length : Int)) : (0 : Int) ≤ 0 ∧ p + 0 ≤ (ns.length : Int) ∧ ∀ j : Nat, p ≤ (j : Int) → (j : Int) < p + 0 → ns[j]? = some 34 :=
  ⟨by decide, by omega, fun j a b => by omega⟩
theorem t_inner {ns : List Int} {p r : Int} (h0 : 0 ≤ p) (h1 : 0 ≤ r) (h2 : p + r ≤ (ns.length : Int)) (h3 : ∀ j : Nat, p ≤ (j : Int) → (j : Int) < p + r → ns[j]? = some 34)
    (e : List.take (min (p + r + 1).toNat ns.length - (p + r).toNat) (List.drop (p + r).toNat ns) = [34]) :
    0 ≤ r + 1 ∧ p + (r + 1) ≤ (ns.length : Int) ∧ ∀ j : Nat, p ≤ (j : Int) → (j : Int) < p + (r + 1) → ns[j]? = some 34 := by
  obtain ⟨a, b⟩ := slice_is (by omega) h2 e
  refine ⟨by omega, by omega, fun j c d => ?_⟩
  by_cases hj : (j : Int) < p + r
  · exact h3 j c hj
  · have : j = (p + r).toNat := by omega
    rw [this]
    exact b
theorem t_meas {ns : List Int} {p r : Int} (h0 : 0 ≤ p) (h1 : 0 ≤ r) (h2 : p + r ≤ (ns.length : Int)) (e : List.take (min (p + r + 1).toNat ns.length - (p + r).toNat) (List.drop (p + r).toNat ns) = [34]) :
    ns.length - (p + (r + 1)).toNat < ns.length - (p + r).toNat := by
  obtain ⟨a, b⟩ := slice_is (by omega) h2 e
  omega
theorem tell_even : ∀ (k : Nat) (r : List Nat), tell (List.replicate (2 * k) 34 ++ r) = List.replicate k 34 ++ tell r := by
  intro k
  induction k with
  | zero => intro r; rfl
  | succ k ih =>
    intro r
    have e : List.replicate (2 * (k + 1)) 34 = 34 :: 34 :: List.replicate (2 * k) 34 := by
      rw [show 2 * (k + 1) = 2 * k + 1 + 1 by omega, List.replicate_succ, List.replicate_succ]
    rw [e, List.cons_append, List.cons_append, tell_two, ih, List.replicate_succ, List.cons_append]
/-- nothing, or a sign that is no quote -/
def NoQuote (r : List Nat) : Prop := ∀ c, r.head? = some c → c ≠ 34
theorem tell_odd (k : Nat) {r : List Nat} (h : NoQuote r) : tell (List.replicate (2 * k + 1) 34 ++ r) = List.replicate k 34 := by
  have e : List.replicate (2 * k + 1) 34 ++ r = List.replicate (2 * k) 34 ++ (34 :: r) := by
    rw [show (34 :: r) = [34] ++ r from rfl, ← List.append_assoc, ← List.replicate_succ']
  rw [e, tell_even]
  cases r with
  | nil => rw [show tell [34] = [] from rfl, List.append_nil]
  | cons d r => rw [tell_stop (h d rfl), List.append_nil]
theorem run_split {ns : List Int} {p r : Int} (h0 : 0 ≤ p) (h1 : 0 ≤ r) (h2 : p + r ≤ (ns.length : Int)) (h3 : ∀ j : Nat, p ≤ (j : Int) → (j : Int) < p + r → ns[j]? = some 34) :
    (ns.drop p.toNat).map Int.toNat = List.replicate r.toNat 34 ++ (ns.drop (p + r).toNat).map Int.toNat := by
  have e1 : ns.drop p.toNat = (ns.drop p.toNat).take r.toNat ++ ns.drop (p + r).toNat := by
    rw [show (p + r).toNat = p.toNat + r.toNat by omega, ← List.drop_drop, List.take_append_drop]
  have e2 : ((ns.drop p.toNat).take r.toNat).map Int.toNat = List.replicate r.toNat 34 := by
    apply List.ext_getElem?
    intro i
    by_cases hi : i < r.toNat
    · have h5 := h3 (p.toNat + i) (by omega) (by omega)
      simp [hi, h5]
    · have h6 : r.toNat ≤ i := by omega
      rw [List.getElem?_eq_none (by simp; omega), List.getElem?_eq_none (by simp; omega)]
  rw [e1, List.map_append, e2]
theorem no_quote {ns : List Int} {q : Int} (h0 : 0 ≤ q) (h2 : q ≤ (ns.length : Int)) (hns : ∀ k ∈ ns, 0 ≤ k ∧ k < 256)
    (e : ¬ List.take (min (q + 1).toNat ns.length - q.toNat) (List.drop q.toNat ns) = [34]) : NoQuote ((ns.drop q.toNat).map Int.toNat) := by
  intro c hc
  by_cases h : q < (ns.length : Int)
  · rw [slice_one h0 h] at e
    have hq : q.toNat < ns.length := by omega
    rw [List.drop_eq_getElem_cons hq, List.map_cons, List.head?_cons] at hc
    have hc' := Option.some.inj hc
    rw [List.getD_eq_getElem?_getD, List.getElem?_eq_getElem hq] at e
    have e' : ¬ ns[q.toNat] = 34 := fun q => e (by rw [q]; rfl)
    have := hns _ (List.getElem_mem hq)
    omega
  · rw [List.drop_eq_nil_of_le (by omega)] at hc
    cases hc
theorem mul_quote {r : Int} (h : 0 ≤ r) : (Txt.mul (Str.ofString "\"") (r.fdiv 2)).cps.toList = List.replicate (r.toNat / 2) 34 := by
  rw [quote_is, mul_one_list]
  congr 1
  rw [Int.fdiv_eq_ediv_of_nonneg _ (by decide)]
  omega
/-- the run was odd: the told text is whole -/
theorem t_odd {ns : List Int} {d : Str} {p r : Int} (hi : tInv ns d p) (h0 : 0 ≤ p) (h1 : 0 ≤ r) (h2 : p + r ≤ (ns.length : Int)) (h3 : ∀ j : Nat, p ≤ (j : Int) → (j : Int) < p + r → ns[j]? = some 34) (hns : ∀ k ∈ ns, 0 ≤ k ∧ k < 256)
    (e : ¬ List.take (min (p + r + 1).toNat ns.length - (p + r).toNat) (List.drop (p + r).toNat ns) = [34]) (ho : r.fmod 2 = 1) : d ++ Txt.mul (Str.ofString "\"") (r.fdiv 2) = ⟨(tell (ns.map Int.toNat)).toArray⟩ := by
  have hn := no_quote (by omega) h2 hns e
  unfold tInv at hi
  rw [run_split h0 h1 h2 h3] at hi
  rw [Int.fmod_eq_emod_of_nonneg _ (by decide)] at ho
  have e2 : r.toNat = 2 * (r.toNat / 2) + 1 := by omega
  rw [e2, tell_odd _ hn] at hi
  apply str_ext
  rw [co_append, mul_quote h1, hi]
theorem t_even {ns : List Int} {d : Str} {p r : Int} (hi : tInv ns d p) (h0 : 0 ≤ p) (h1 : 0 ≤ r) (h2 : p + r ≤ (ns.length : Int)) (h3 : ∀ j : Nat, p ≤ (j : Int) → (j : Int) < p + r → ns[j]? = some 34) (ho : ¬ r.fmod 2 = 1) :
    tell (ns.map Int.toNat) = d.cps.toList ++ (List.replicate (r.toNat / 2) 34 ++ tell ((ns.drop (p + r).toNat).map Int.toNat)) := by
  unfold tInv at hi
  rw [run_split h0 h1 h2 h3] at hi
  rw [Int.fmod_eq_emod_of_nonneg _ (by decide)] at ho
  have e2 : r.toNat = 2 * (r.toNat / 2) := by omega
  rw [e2, tell_even] at hi
  rw [hi]
theorem t_len {d : Str} {p r : Int} (h1 : 0 ≤ r) (hd : (d.length : Int) ≤ p) : ((d ++ Txt.mul (Str.ofString "\"") (r.fdiv 2)).length : Int) ≤ p + r := by
  rw [Str.length_append, len_co (Txt.mul _ _), mul_quote h1, List.length_replicate]
  omega
theorem t_add_ok {d : Str} {p r : Int} {ns : List Int} {k : Nat} (h1 : 0 ≤ r) (hd : (d.length : Int) ≤ p) (h2 : p + r ≤ (ns.length : Int)) (hl : ns.length ≤ 1000) : (d ++ Txt.mul (Str.ofString "\"") (r.fdiv 2)).length + (⟨#[k]⟩ : Str).length ≤ 16777216 := by
  have := t_len h1 hd
  show _ + 1 ≤ _
  omega
/-- a turn's end: the run reaches the end of the codes -/
theorem t_turn0 {ns : List Int} {d : Str} {p r : Int} (hi : tInv ns d p) (h0 : 0 ≤ p) (h1 : 0 ≤ r) (h2 : p + r ≤ (ns.length : Int)) (h3 : ∀ j : Nat, p ≤ (j : Int) → (j : Int) < p + r → ns[j]? = some 34) (ho : ¬ r.fmod 2 = 1)
    (hd : (d.length : Int) ≤ p) (hq : ¬ p + r < (ns.length : Int)) :
    0 ≤ p + r + 1 ∧ p + r + 1 ≤ (ns.length : Int) + 1 ∧ ((d ++ Txt.mul (Str.ofString "\"") (r.fdiv 2)).length : Int) ≤ p + r + 1 ∧ tInv ns (d ++ Txt.mul (Str.ofString "\"") (r.fdiv 2)) (p + r + 1) := by
  refine ⟨by omega, by omega, ?_, ?_⟩
  · have := t_len h1 hd
    omega
  · unfold tInv
    rw [t_even hi h0 h1 h2 h3 ho, co_append, mul_quote h1, List.drop_eq_nil_of_le (by omega : ns.length ≤ (p + r).toNat), List.drop_eq_nil_of_le (by omega : ns.length ≤ (p + r + 1).toNat)]
    simp
/-- a turn's end: the run, then a sign -/
theorem t_turn1 {ns : List Int} {d : Str} {p r k : Int} (hi : tInv ns d p) (h0 : 0 ≤ p) (h1 : 0 ≤ r) (h2 : p + r ≤ (ns.length : Int)) (h3 : ∀ j : Nat, p ≤ (j : Int) → (j : Int) < p + r → ns[j]? = some 34) (hns : ∀ k ∈ ns, 0 ≤ k ∧ k < 256) (ho : ¬ r.fmod 2 = 1)
    (e : ¬ List.take (min (p + r + 1).toNat ns.length - (p + r).toNat) (List.drop (p + r).toNat ns) = [34])
    (hd : (d.length : Int) ≤ p) (hq : p + r < (ns.length : Int)) (hk : ns[(p + r).toNat]? = some k) :
    0 ≤ p + r + 1 ∧ p + r + 1 ≤ (ns.length : Int) + 1 ∧ ((d ++ Txt.mul (Str.ofString "\"") (r.fdiv 2) ++ ⟨#[k.toNat]⟩).length : Int) ≤ p + r + 1 ∧ tInv ns (d ++ Txt.mul (Str.ofString "\"") (r.fdiv 2) ++ ⟨#[k.toNat]⟩) (p + r + 1) := by
  have hn := no_quote (by omega) h2 hns e
  have hl : (p + r).toNat < ns.length := by omega
  have hk' : ns[(p + r).toNat] = k := by simpa [hl] using hk
  have ed : ns.drop (p + r).toNat = k :: ns.drop (p + r + 1).toNat := by
    rw [List.drop_eq_getElem_cons hl, hk', show (p + r).toNat + 1 = (p + r + 1).toNat by omega]
  refine ⟨by omega, by omega, ?_, ?_⟩
  · have := t_len h1 hd
    rw [Str.length_append]
    show (((d ++ Txt.mul (Str.ofString "\"") (r.fdiv 2)).length + 1 : Nat) : Int) ≤ _
    omega
  · unfold tInv
    rw [ed] at hn
    rw [t_even hi h0 h1 h2 h3 ho, co_append, co_append, mul_quote h1, ed, List.map_cons, tell_other (hn _ rfl)]
    simp
theorem t_end {ns : List Int} {d : Str} {p : Int} (hi : tInv ns d p) (h0 : 0 ≤ p) (h : ¬ p < (ns.length : Int)) : d = ⟨(tell (ns.map Int.toNat)).toArray⟩ := by
  unfold tInv at hi
  rw [List.drop_eq_nil_of_le (by omega)] at hi
  rw [hi]
  apply str_ext
  rw [show tell (([] : List Int).map Int.toNat) = [] from rfl, List.append_nil]
end Mine
end
/-! ## Exc0201 -/
section
open PySem PySem.W PyProof PyProof.Rows PySem.Spec PySem.Calls
set_option maxRecDepth 100000
namespace Mine
section
variable {prog : Program} {w : World} {A : Around} {E : Value → Shared → Prop} {s : Shared} {K : Frag} {x t0 C : Addr} {ox : Obj} {od : Option Obj}
theorem exc_special {M : Model} {name : Str} {id : String} {args : List Value} {Q : Option Value → Shared → Prop} (X : K.In s.heap) (I : ∀ M : Model, Looks M s.heap (typeOf (.ref x)) (.ref C)) (hs : findIn K (.ref C) name = some (some (.builtin id)))
    (hb : ∀ self, bindSpecial (.builtin id) self = pure (.builtin id, [self])) (h : wpAny M A (call (.builtin id) (.ref x :: args)) (fun v => Q (some v)) E s) : wpAny M A (callSpecial? (.ref x) name args) Q E s :=
  wpAny_bind (wpAny_bind ((I _).here ((looks_findIn X hs).here (wpAny_holding (wpAny_bind ((Looks.of_pure (hb _)).here (wpAny_bind (wpAny_mono h (fun _ _ z => wpAny_pure z) fun _ _ z => z))))))))
/-- an exception's object, of whatever class, that keeps its arguments' tuple -/
def ArgsAt (h : Heap) (e : Addr) (t : Addr) : Prop := ∃ o vs, h.get? e = some o ∧ o.data = .fields vs ∧ vs[0]? = some (.ref t)
theorem wpAny_bexcArgs' {M : Model} {items : List Value} {Q : Value × List Value → Shared → Prop} (I : ArgsAt s.heap x t0) (ht : s.heap.TupAt t0 items) (hq : Q (.ref t0, items) s) :
    wpAny M A (Builtin.BaseException.bexcArgs (.ref x)) Q E s := by
  obtain ⟨o, vs, ho, hd, h0⟩ := I
  obtain ⟨ot, k, hto, _, htd⟩ := ht
  unfold Builtin.BaseException.bexcArgs
  refine wpAny_bind (wpAny_field ho hd h0 (wpAny_bind (wpAny_seqItems hto htd ?_)))
  have : items.toArray.toList = items := by simp
  show wpAny M A (pure (Value.ref t0, items.toArray.toList)) Q E s
  rw [this]; exact wpAny_pure hq
theorem bexcStr_one' {m : Str} {tk : Tok} {Q : Fin → Shared → Prop} (I : ArgsAt s.heap x t0) (ht : s.heap.TupAt t0 [.str m tk]) (hq : Q (.done (.ret (.str m tk))) s) :
    wpAny (model prog w) A (Builtin.«BaseException.__str__» ⟨[.ref x], []⟩) Q E s := by
  unfold Builtin.«BaseException.__str__»
  repeat (first | with_reducible refine wpAny_bexcArgs' I ht ?_ | wp_step)
  exact hq
theorem call_bexcStr' {m : Str} {tk : Tok} {Q : Value → Shared → Prop} (X : K.In s.heap) (I : ∀ M : Model, Looks M s.heap (typeOf (.ref x)) (.ref C)) (hm : mroIn K C (.type "BaseException") = some true) (J : ArgsAt s.heap x t0) (ht : s.heap.TupAt t0 [.str m tk]) (hq : Q (.str m tk) s) :
    wpAny (model prog w) A (call (.builtin "BaseException.__str__") [.ref x]) Q E s := by
  refine wpAny_call (codeAny_call_builtin PySem.F.excStr_Exception.str.plain PySem.F.entry_bexc_str (check_slot (i := "BaseException.__str__") (owner := "BaseException") (n := "__str__") (by decide +kernel) (by decide +kernel) ((I _).andThen (looks_mroIn X hm)) (PySem.F.args_bexc_str _) ?_))
  exact bexcStr_one' J ht hq
theorem exc_str {m : Str} {tk : Tok} {Q : Value → Shared → Prop} (hu : A.in1.in1.units < cLine) (X : K.In s.heap) (I : ∀ M : Model, Looks M s.heap (typeOf (.ref x)) (.ref C)) (hs : findIn K (.ref C) "__str__" = some (some (.builtin "BaseException.__str__"))) (hm : mroIn K C (.type "BaseException") = some true)
    (J : ArgsAt s.heap x t0) (ht : s.heap.TupAt t0 [.str m tk]) (hq : Q (.str m tk) s) : wpAny (model prog w) A (call (.type "str") [.ref x]) Q E s := by
  refine callType_codes (T := "str") (Bi := Builtin.«object.__init__») (Q₁ := fun r s₁ => ∃ y u, r = .str y u ∧ Q r s₁) PySem.F.called_str (PySem.F.typeCall_str_1 _) PySem.F.entry_object_init ?_ ?_
  · refine codeAny_of_tree ?_
    show wpAny _ A.in1.in1 (do checkBuiltinCall "str.__new__" ⟨[.type "str", .ref x], []⟩; again (.builtin "str.__new__" ⟨[.type "str", .ref x], []⟩)) _ _ s
    refine wpAny_bind (wpAny_of_eq (PySem.F.newCall_str_1 _) (wpAny_pure ⟨plainId_quiet (by decide +kernel) _, codeAny_builtin PySem.F.entry_str_new ?_⟩))
    rw [Around.under_plainId (by decide +kernel) _]
    rw [str_new_tree]
    refine wpAny_bind (wpAny_pure ?_)
    refine wpAny_bind (wpAny_of_eq isSubtype_str_str ?_)
    have key : wpAny (model prog w) A.in1.in1 (PySem.Builtin.Str.strOf (.ref x)) (fun r s₁ => ∃ y u, r = .str y u ∧ Q r s₁) E s := by
      unfold PySem.Builtin.Str.strOf
      rw [show Builtin.Str.isExactStr (.ref x) = false from rfl]
      refine wpAny_bind (m := cRoomFor _ _) (wpAny_cRoomFor hu ?_)
      refine wpAny_bind (m := callSpecial? (.ref x) (Str.ofString "__str__")) (exc_special X I hs PySem.F.excStr_Exception.str.bind (call_bexcStr' X I hm J ht ?_))
      exact wpAny_pure ⟨_, _, rfl, hq⟩
    exact wpAny_bind (wpAny_mono key (fun r s₁ hr => wpAny_pure hr) fun _ _ y => y)
  · rintro obj s₁ ⟨y, u, rfl, hq⟩
    exact ⟨typeIs_str _ _ _, PySem.F.args_object_init_2 _ _, object_init_meets PySem.F.called_str.init.lookup PySem.F.called_str.made (by decide) prog w A.in1 _ s₁ ⟨typeIs_str _ _ _, rfl, hq⟩⟩
theorem got_str {g : Heap} {L : Addr} {n₂ : List (Addr × Obj)} {m : Str} {tk : Tok} {Q : Value → Shared → Prop} (hu : A.in1.in1.units < cLine) (X : K.In s.heap) (N : News g L s.heap n₂) (G : Got n₂ x t0 (.ref C) [.str m tk])
    (hs : findIn K (.ref C) "__str__" = some (some (.builtin "BaseException.__str__"))) (hm : mroIn K C (.type "BaseException") = some true) (hq : Q (.str m tk) s) : wpAny (model prog w) A (call (.type "str") [.ref x]) Q E s := by
  obtain ⟨oe, ot, ws, nt, m1, m2, hoec, hoed, hoe0, hotc, hotd⟩ := G
  refine exc_str hu X (fun M => ?_) hs hm ⟨oe, ws, (N _ m1).1, hoed, hoe0⟩ ⟨ot, nt, (N _ m2).1, hotc, hotd⟩ hq
  exact hoec ▸ (Looks.ld (N _ m1).1).andThen .now
theorem got_str2 {g : Heap} {L : Addr} {news : List (Addr × Obj)} {m : Str} {tk : Tok} {oe ot : Obj} {ws : Array Value} {nt : Nat} {Q : Value → Shared → Prop} (hu : A.in1.in1.units < cLine) (X : K.In s.heap) (N : News g L s.heap ((x, oe) :: (t0, ot) :: news))
    (e1 : oe.cls = .ref C) (e2 : oe.data = .fields ws) (e3 : ws[0]? = some (.ref t0)) (e5 : ot.cls = .type "tuple") (e6 : ot.data = .seq [Value.str m tk].toArray nt)
    (hs : findIn K (.ref C) "__str__" = some (some (.builtin "BaseException.__str__"))) (hm : mroIn K C (.type "BaseException") = some true) (hq : Q (.str m tk) s) : wpAny (model prog w) A (call (.type "str") [.ref x]) Q E s :=
  got_str (n₂ := (x, oe) :: (t0, ot) :: news) hu X N ⟨oe, ot, ws, nt, .head _, .tail _ (.head _), e1, e2, e3, e5, e6⟩ hs hm hq
end
end Mine
end
/-! ## Keep0201 -/
section
open PySem PySem.W PyProof PyProof.Rows PySem.Spec PySem.Calls
set_option maxRecDepth 100000
namespace Mine
/-- the exception at e bears no context -/
def NoCtx (h : Heap) (e : Addr) : Prop := ∃ oe vs, h.get? e = some oe ∧ oe.data = .fields vs ∧ vs[2]? = some .none
/-- a tree that leaves it so -/
def Gentle {α : Type} (e : Addr) (t : Sem α) : Prop := ∀ (M : Model) (Γ : PySem.Ctx) (Q : α → Pos → Shared → Prop) (E : Value → Pos → Shared → Prop) (p : Pos) (s : Shared),
  Sem.wp M Γ t Q E p s → NoCtx s.heap e → Sem.wp M Γ t (fun a p' s' => Q a p' s' ∧ NoCtx s'.heap e) (fun x p' s' => E x p' s' ∧ NoCtx s'.heap e) p s
section
variable {α β : Type} {e : Addr}
theorem Gentle.pure {a : α} : Gentle e (Pure.pure a : Sem α) := fun M Γ Q E p s h k => by
  rw [Sem.wp_pure'] at h ⊢
  exact ⟨h, k⟩
theorem Gentle.bind {m : Sem α} {f : α → Sem β} (hm : Gentle e m) (hf : ∀ a, Gentle e (f a)) : Gentle e (m >>= f) := fun M Γ Q E p s h k => by
  rw [Sem.wp_bind'] at h ⊢
  refine Sem.wp_mono M Γ m (fun a p' s' q => ?_) (fun _ _ _ q => q) p s (hm M Γ _ _ p s h k)
  exact hf a M Γ Q E p' s' q.1 q.2
theorem Gentle.unsup {what : String} : Gentle e (unsupported what : Sem α) := fun M Γ Q E p s h k => by
  have : Sem.wp M Γ (Sem.unsupported what : Sem α) Q E p s := h
  rw [Sem.wp_unsupported] at this
  exact this.elim
theorem Gentle.load {a : Addr} : Gentle e (PySem.load a) := fun M Γ Q E p s h k => by
  have h' : Sem.wp M Γ (Sem.load a none .pure) Q E p s := h
  rw [Sem.wp_load] at h'
  obtain ⟨o, ho, hq⟩ := h'
  show Sem.wp M Γ (Sem.load a none .pure) _ _ p s
  rw [Sem.wp_load]
  refine ⟨o, ho, ?_⟩
  rw [Sem.wp_pure] at hq ⊢
  exact ⟨hq, k⟩
theorem Gentle.stack : Gentle e PySem.stack := fun M Γ Q E p s h k => by
  have h' : Sem.wp M Γ (Sem.stack .pure) Q E p s := h
  show Sem.wp M Γ (Sem.stack .pure) _ _ p s
  rw [Sem.wp_stack, Sem.wp_pure] at h' ⊢
  exact ⟨h', k⟩
theorem Gentle.alloc {o : Obj} : Gentle e (PySem.alloc o) := fun M Γ Q E p s h k => by
  have h' : Sem.wp M Γ (Sem.alloc o .pure) Q E p s := h
  show Sem.wp M Γ (Sem.alloc o .pure) _ _ p s
  rw [Sem.wp_alloc, Sem.wp_pure] at h' ⊢
  obtain ⟨oe, vs, h1, h2, h3⟩ := k
  exact ⟨h', oe, vs, Heap.get?_push_of_some _ h1, h2, h3⟩
/-- what an update may do to a record -/
def Mild (f : Obj → Obj) : Prop := ∀ o vs, o.data = .fields vs → vs[2]? = some .none → ∃ vs', (f o).data = .fields vs' ∧ vs'[2]? = some .none
theorem Gentle.update {a : Addr} {f : Obj → Obj} (hf : Mild f) : Gentle e (PySem.update a f) := fun M Γ Q E p s h k => by
  have h' : Sem.wp M Γ (Sem.update a none f .pure) Q E p s := h
  show Sem.wp M Γ (Sem.update a none f .pure) _ _ p s
  rw [Sem.wp_update, Sem.wp_pure] at h' ⊢
  refine ⟨h'.1, h'.2, ?_⟩
  obtain ⟨oe, vs, h1, h2, h3⟩ := k
  by_cases q : a = e
  · subst q
    obtain ⟨vs', d1, d2⟩ := hf oe vs h2 h3
    exact ⟨_, vs', Heap.get?_update_self f h1 (Obj.isFreed_of_fields d1), d1, d2⟩
  · exact ⟨oe, vs, (Heap.get?_update_other _ _ q).trans h1, h2, h3⟩
theorem mild_slots {g : Obj → Array (Option Value)} : Mild fun o => { o with slots := g o } := fun _ vs h1 h2 => ⟨vs, h1, h2⟩
theorem mild_field {i : Nat} {v : Value} (hi : i ≠ 2) : Mild (Obj.mapFields (·.setIfInBounds i v)) := fun o vs h1 h2 => ⟨_, Obj.data_mapFields h1 _, by rw [Array.getElem?_setIfInBounds_ne hi]; exact h2⟩
theorem gentle_fieldsOf {v : Value} : Gentle e (fieldsOf v) := by
  unfold fieldsOf
  split
  · refine Gentle.bind Gentle.load fun o => ?_
    split
    · exact Gentle.pure
    · exact Gentle.unsup
  · exact Gentle.unsup
theorem gentle_field {v : Value} {i : Nat} : Gentle e (field v i) := by
  unfold field
  refine Gentle.bind gentle_fieldsOf fun o => ?_
  split
  · exact Gentle.pure
  · exact Gentle.unsup
theorem gentle_setField {v x : Value} {i : Nat} (hi : i ≠ 2) : Gentle e (setField v i x) := by
  unfold setField
  split
  · unfold updateField
    refine Gentle.bind Gentle.load fun o => ?_
    split
    · split
      · exact Gentle.update (mild_field hi)
      · exact Gentle.unsup
    · exact Gentle.unsup
  · exact Gentle.unsup
theorem gentle_setFlight {v : Value} {fr : Option Addr} : Gentle e (setFlight v fr) := by
  unfold setFlight
  refine Gentle.bind gentle_field fun tb => ?_
  split
  · exact gentle_setField (by decide)
  · exact Gentle.pure
theorem gentle_entryPlaceOf {f : Addr} {b : Bool} : Gentle e (entryPlaceOf f b) := by
  unfold entryPlaceOf
  refine Gentle.bind Gentle.stack fun acts => ?_
  split
  · exact Gentle.pure
  · exact Gentle.pure
theorem gentle_keptBack {env : Env} {i : Bool} {l : List Env} : Gentle e (keptBack env i l) := by
  unfold keptBack
  split
  · split
    · exact Gentle.pure
    · unfold underTheClaimsCaller
      repeat' (first | exact Gentle.pure | exact Gentle.stack | refine Gentle.bind ?_ fun _ => ?_ | split)
  · exact Gentle.pure
theorem gentle_behindIsImport {env : Env} {l : List Env} : Gentle e (behindIsImport env l) := by
  unfold behindIsImport
  repeat' (first | exact Gentle.pure | exact gentle_field | refine Gentle.bind ?_ fun _ => ?_ | split)
theorem gentle_readyFrames : ∀ l : List Env, Gentle e (readyFrames l)
  | [] => Gentle.pure
  | env :: outer => by
    unfold readyFrames
    have ih := gentle_readyFrames outer
    repeat' (first | exact Gentle.pure | exact Gentle.unsup | exact ih | exact Gentle.load | exact gentle_keptBack | exact gentle_behindIsImport | exact Gentle.update mild_slots | refine Gentle.bind ?_ fun _ => ?_ | split)
theorem gentle_frameOf {env : Env} : Gentle e (PySem.frameOf env) := by
  unfold PySem.frameOf
  refine Gentle.bind ?_ fun l => Gentle.bind ?_ fun f => ?_
  · unfold frameEnvs
    exact Gentle.bind Gentle.stack fun _ => Gentle.pure
  · unfold frameObject
    split
    · exact Gentle.pure
    · exact Gentle.bind (gentle_readyFrames _) fun _ => Gentle.pure
  · split
    · exact Gentle.pure
    · exact Gentle.unsup
theorem gentle_newEntry {a b c d f : Value} {l : List Value} : Gentle e (EntryCells.newEntry a b c d f l) := by
  unfold EntryCells.newEntry newFields newObj newObjAsIs
  repeat' (first | contradiction | exact Gentle.load | exact Gentle.pure | exact Gentle.unsup | exact Gentle.alloc | refine Gentle.bind ?_ fun _ => ?_ | split)
theorem gentle_noteFrame {v : Value} {env : Env} : Gentle e (noteFrame v env) := by
  unfold noteFrame
  repeat' (first | exact Gentle.pure | exact Gentle.unsup | exact gentle_field | exact gentle_setField (by decide) | exact gentle_newEntry | exact gentle_frameOf | exact gentle_entryPlaceOf | refine Gentle.bind ?_ fun _ => ?_ | split)
theorem gentle_leaving {v : Value} {env : Env} : Gentle e (leaving env v) := by
  unfold leaving
  exact Gentle.bind gentle_noteFrame fun _ => gentle_setFlight
theorem Gentle.any {t : Sem α} (G : Gentle e t) {M : Model} {A : Around} {Q : α → Shared → Prop} {E : Value → Shared → Prop} {s : Shared} (h : wpAny M A t Q E s) (k : NoCtx s.heap e) :
    wpAny M A t (fun a s' => Q a s' ∧ NoCtx s'.heap e) (fun x s' => E x s' ∧ NoCtx s'.heap e) s := fun Γ p hΓ => G M Γ _ _ p s (h Γ p hΓ) k
/-- a rule for a gentle tree, with what it keeps -/
theorem Gentle.with {t : Sem α} (G : Gentle e t) {M : Model} {A : Around} {P : α → Shared → Prop} {Q : α → Shared → Prop} {E : Value → Shared → Prop} {s : Shared} (k : NoCtx s.heap e) (h : wpAny M A t P (fun _ _ => False) s)
    (hQ : ∀ a s', P a s' → NoCtx s'.heap e → Q a s') : wpAny M A t Q E s :=
  wpAny_mono (G.any h k) (fun a s' q => hQ a s' q.1 q.2) fun _ _ q => q.1.elim
theorem noCtx_made {h h' : Heap} {cls : Value} {args : List Value} (x : Heap.MadeExcOf h h' e cls args) : NoCtx h' e := by
  obtain ⟨t, he, _, _⟩ := x.there
  exact ⟨_, _, he, rfl, rfl⟩
end
end Mine
end
/-! ## Caught0201 -/
section
open PySem PySem.W PyProof PyProof.Rows PySem.Spec PySem.Calls
set_option maxRecDepth 100000
namespace Mine
section
variable {M : Model} {A : Around} {E : Value → Shared → Prop} {s' : Shared} {base g h : Heap} {outer : List Env} {L a e : Addr} {m : Str → Option Value} {name : Str} {scope : Scope} {cd : Value} {Q : Unit → Shared → Prop} {news : List (Addr × Obj)}
/-- a def is left by an exception it made: it bears no context -/
theorem leave_raise2 {cls : Value} {vs : List Value} (K : Below A base outer g) (hx : Heap.MadeExcOf h s'.heap e cls vs) (F : Fr g L h m) (N : News g L h news)
    (hQ : ∀ h' t, RaisedS base g outer e cls t vs news h' → g.UpToSlots h' → NoCtx h' e → Q () { s' with heap := h' }) (hk : scope.kind = .function := by rfl) :
    wpAny M (A.deeper (envOf name scope L a cd)) (leaving (envOf name scope L a cd) (.ref e)) Q E s' := by
  refine Gentle.with gentle_leaving (noCtx_made hx) (P := fun _ s₂ => ∃ h' t, s₂ = { s' with heap := h' } ∧ RaisedS base g outer e cls t vs news h' ∧ g.UpToSlots h')
    (leave_raiseS K hx F N (fun h' t R _ U => ⟨h', t, rfl, R, U⟩) hk) ?_
  rintro _ _ ⟨h', t, rfl, R, U⟩ k
  exact hQ h' t R U k
end
section
variable {prog : Program} {w : World} {A₀ : Around} {E : Value → Shared → Prop} {s' : Shared} {base g g₀ G : Heap} {outer : List Env} {L a e t C : Addr} {m : Str → Option Value} {name : Str} {scope : Scope} {cd : Value}
  {vs : List Value} {n : Str} {b₀ : Stmt} {suite : List Stmt} {pos np : Pos} {rest : List ExceptHandler} {Q : Flow → Shared → Prop} {news : List (Addr × Obj)} {KF : Frag}
  {p : Program} {loose : List Str} {mean : ExcName → Option Value} {mg mb : Str → Option Value} {x : Str}
/-- an own exception without a context, caught under a name in a called def -/
theorem caught2 (R : RaisedS base G (envOf name scope L a cd :: outer) e (.ref C) t vs news s'.heap) (F : Fr g L G m) (K : Below A₀ base outer g) (hsm : G.UpToSlots s'.heap) (XB : KF.In base) (TB : Top p loose mean mg mb base)
    (D : KtsDicts (outer.filterMap (·.frame)) g) (T0 : KtsTurn (outer.filterMap (·.frame)) g₀ g) (kc : NoCtx s'.heap e)
    (ex : nsIn KF mainGlobals x = some (some (.ref C))) (q : ktsIn KF C "BaseException" = true)
    (k : ∀ h' g' oe ot ws nt tk, KtsTurn (outer.filterMap (·.frame)) g₀ g' → Fr g' L h' (fun y => if y = n then some (.ref e) else m y) → News g' L h' ((e, oe) :: (t, ot) :: news) → oe.cls = .ref C → oe.data = .fields ws → ws[0]? = some (.ref t) → ws[2]? = some .none → ot.cls = .type "tuple" → ot.data = .seq vs.toArray nt →
      Below A₀ base outer g' → KF.In g' → Top p loose mean mg mb g' → KtsDicts (outer.filterMap (·.frame)) g' →
      wpAny (model prog w) ((A₀.deeper (envOf name scope L a cd)).mark (some (.ref e))) (execs (b₀ :: suite) (envOf name scope L a cd))
        (fun f s₄ => wpAny (model prog w) (A₀.deeper (envOf name scope L a cd)) (do bindName (envOf name scope L a cd) n .none; unbindBehindTheSuite (envOf name scope L a cd) n pos) (fun _ s₅ => Q f s₅) E s₄)
        (AsSuiteRaised (model prog w) ((A₀.deeper (envOf name scope L a cd)).mark (some (.ref e))) (envOf name scope L a cd) n pos (notedBy (model prog w) ((A₀.deeper (envOf name scope L a cd)).mark (some (.ref e))) (envOf name scope L a cd) (cameBackBy (model prog w) (A₀.deeper (envOf name scope L a cd)) (envOf name scope L a cd) E)))
        { s' with heap := h', toks := tk })
    (hk : scope.kind = .function := by rfl) (hlo : (envOf name scope L a cd).kindOf n = some .local := by rfl) (hx : (envOf name scope L a cd).kindOf x = some .globalImplicit := by rfl) (hd : (x == ("__debug__" : Str)) = false := by decide) :
    wpAny (model prog w) (A₀.deeper (envOf name scope L a cd)) (noteFrame (.ref e) (envOf name scope L a cd))
      (fun _ s₂ => wpAny (model prog w) (A₀.deeper (envOf name scope L a cd)) (setFlight (.ref e) none) (fun _ s₃ =>
        wpAny (model prog w) (A₀.deeper (envOf name scope L a cd)) (handleBy (.ref e) (envOf name scope L a cd) (.ExceptHandler (some (.Name x np)) (some n) (b₀ :: suite) pos :: rest)) Q E s₃) E s₂) E s' := by
  obtain ⟨⟨B, hB, hBG, hl, hfl, hnew⟩, htup⟩ := R
  have hL : B.get? L = none := by
    obtain ⟨_, ⟨L', _, hf, hn', _⟩, _⟩ := hfl.2.2.1
    obtain rfl : L = L' := Option.some.inj hf
    exact hn'
  -- the frame is noted, the flight is set: the record's context stays as it was
  refine Gentle.with gentle_noteFrame kc (P := fun _ s₄ => ∃ h₄, s₄ = { s' with heap := h₄ } ∧ Heap.HeldW B (envOf name scope L a cd :: outer) e (.ref C) (.ref t) L h₄ ∧ s'.heap.UpToSlots h₄)
    (wpAny_looks_onW (Around.frames_deeper K.stack) rfl hfl fun h₄ x1 x2 => ⟨h₄, rfl, x1, x2⟩) ?_
  rintro _ _ ⟨h₄, rfl, held₄, sm₄⟩ kc₄
  refine Gentle.with gentle_setFlight kc₄ (P := fun _ s₅ => ∃ h₅, s₅ = { s' with heap := h₅ } ∧ Heap.FlyingW B (envOf name scope L a cd :: outer) e (.ref C) (.ref t) h₅ ∧ h₄.UpToSlots h₅)
    (wpAny_landsW held₄ fun h₅ x1 x2 => ⟨h₅, rfl, x1, x2⟩) ?_
  rintro _ _ ⟨h₅, rfl, fl₅, sm₅⟩ kc₅
  have up₅ := sm₄.trans sm₅
  obtain ⟨g₅, _, F₅, K₅⟩ := kts_ground K F hBG fl₅.1 (hsm.trans up₅)
  have X₅ : KF.In g₅ := XB.keeps K₅.stays
  have P₅ : TopRead p loose mg mb g₅ := topRead_of (TB.keeps K₅.stays)
  obtain ⟨ob, hob, hobc⟩ := fl₅.there
  obtain ⟨_, _, _, _, _, _, _, _, _, _, _, _, _, _, _, _, _, hC, hbase, _⟩ := kts_cls X₅ q
  -- the handler's class is the exception's own
  refine wpAny_handleBy_cons (codeAny_handlers_test (name_K F₅ X₅ P₅ ex ?_ hk hx hd)) (by intro q; cases q)
  refine wpAny_excMatches_sub_self (F₅.keep _ _ hC) hob hobc hbase (codeAny_handlers_suite_as ?_)
  refine Gentle.with gentle_setFlight kc₅ (P := fun _ s₆ => ∃ h₆, s₆ = { s' with heap := h₆ } ∧ Heap.FlyingW B (envOf name scope L a cd :: outer) e (.ref C) (.ref t) h₆ ∧ h₅.UpToSlots h₆)
    (lands_againW fl₅ fun h₆ x1 x2 => ⟨h₆, rfl, x1, x2⟩) ?_
  rintro _ _ ⟨h₆, rfl, fl₆, sm₆⟩ kc₆
  have up₆ := up₅.trans sm₆
  obtain ⟨g₆, T₆, F₆, K₆⟩ := kts_ground K F hBG fl₆.1 (hsm.trans up₆)
  obtain ⟨oe, ws, hoe, hoec, hoed, hoe0⟩ := fl₆.first
  have hoe2 : ws[2]? = some .none := by
    obtain ⟨o', ws', h1, h2, h3⟩ := kc₆
    rw [show h₆.get? e = some oe from hoe] at h1
    cases h1
    rw [hoed] at h2
    cases h2
    exact h3
  obtain ⟨ot, nt, hot, hotc, hotd⟩ := htup.of_slots up₆
  have fre : g₆.get? e = none := T₆.none_ _ (kts_fresh F hBG fl₆.2.1 fun o ho hm => by
    obtain ⟨_, o', ho', hno⟩ := K.frames.mem hm
    cases ho.symm.trans ho'
    obtain ⟨sl, hs⟩ := (hsm.trans up₆) _ _ (F.keep _ _ ho) hno
    cases hoe.symm.trans hs
    exact hno _ hoed)
  have frt : g₆.get? t = none := T₆.none_ _ (kts_fresh F hBG hnew fun o ho hm => by
    obtain ⟨o', es, n', ho', hdi⟩ := D _ hm
    cases ho.symm.trans ho'
    obtain ⟨sl, hs⟩ := (hsm.trans up₆) _ _ (F.keep _ _ ho) (fun _ q => by cases hdi.symm.trans q)
    cases hot.symm.trans hs
    cases hdi.symm.trans hotd)
  have N₆ := News.more F₆ (News.more F₆ News.nil hot (fun es n q => by rw [hotd] at q; cases q) frt) hoe (fun es n q => by rw [hoed] at q; cases q) fre
  have Nl : News g₆ L h₆ news := fun r hr => ⟨fl₆.1 _ _ (hl r hr).1, (fun z => by have := (hl r hr).1; rw [z, hL] at this; cases this), T₆.none_ _ (kts_none F.keep (hl r hr).2.1)⟩
  refine stN F₆ (news := (e, oe) :: (t, ot) :: news) (fun r hr => ?_) (fun h₇ F₇ N₇ => ?_) hk hlo
  · rcases List.mem_cons.mp hr with z | hr
    · exact N₆ r (z ▸ .head _)
    · rcases List.mem_cons.mp hr with z | hr
      · exact N₆ r (z ▸ .tail _ (.head _))
      · exact Nl r hr
  · exact k h₇ g₆ oe ot ws nt _ (T0.trans T₆) F₇ N₇ hoec hoed hoe0 hoe2 hotc hotd K₆ (XB.keeps K₆.stays) (TB.keeps K₆.stays) (D.turn T₆)
end
end Mine
end
/-! ## Handled0201 -/
section
open PySem PySem.W PyProof PyProof.Rows PySem.Spec PySem.Calls
set_option maxRecDepth 100000
namespace Mine
theorem entry_unchain : entryFor table "proto.unchain" = some Builtin.«proto.unchain» := entryFor_of_tree (by kernel_rfl)
section
variable {prog : Program} {w : World} {A : Around} {E : Value → Shared → Prop} {s : Shared} {e : Addr}
/-- the handled exception bears no context: there is nothing to unchain -/
theorem unchain_none {x y : Value} {Q : Value → Shared → Prop} (k : NoCtx s.heap e) (hq : Q .none s) : wpAny (model prog w) A (runValue (.builtin "proto.unchain" ⟨[x, .ref e, y, .bool false], []⟩)) Q E s := by
  obtain ⟨oe, vs, h1, h2, h3⟩ := k
  refine wpAny_runValue (codeAny_builtin entry_unchain ?_)
  unfold Builtin.«proto.unchain»
  refine wpAny_bind (wpAny_field h1 h2 h3 ?_)
  exact wpAny_pure hq
theorem raiseNew_handled {a : Addr} {o : Obj} {vs : Array Value} {α : Type} {Q : α → Shared → Prop} (hh : A.handled = some (.ref e)) (k : NoCtx s.heap e) (ne : e ≠ a) (ho : s.heap.get? a = some o) (hd : o.data = .fields vs) (hz : 2 < vs.size)
    (hE : E (.ref a) { s with heap := s.heap.update a (Obj.mapFields (·.setIfInBounds 2 (.ref e))) }) : wpAny (model prog w) A (raiseNew (.ref a) : Sem α) Q E s := by
  unfold raiseNew
  refine wpAny_bind (wpAny_handled ?_)
  rw [hh]
  show wpAny _ _ (if (Value.ref e != Value.ref a) = true then _ else _) _ _ _
  rw [if_pos (by simp [bne_iff_ne, ne])]
  refine wpAny_bind (wpAny_holding (unchain_none k ?_))
  refine wpAny_bind ?_
  show wpAny _ _ (setField (.ref a) 2 (.ref e)) _ _ _
  exact wpAny_setField ho hd hz (wpAny_throw hE)
theorem pyNext_list_endH {it l : Addr} {i : Nat} {items : Array Value} {Q : Option Value → Shared → Prop} (hh : A.handled = some (.ref e)) (k : NoCtx s.heap e) (ne : e ≠ it)
    (hit : s.heap.IsListIter it l i) (hl : s.heap.IsList l items) (hx : items[i]? = none)
    (hQ : ∀ h', (∀ b o, b ≠ it → s.heap.get? b = some o → h'.get? b = some o) → Q none { s with heap := h' }) : wpAny (model prog w) A (pyNext (.ref it)) Q E s := by
  obtain ⟨o, ho, hc, hd⟩ := id hit
  obtain ⟨ol, hol, _, nl, hdl⟩ := hl
  obtain ⟨oe, ws, he1, he2, he3⟩ := id k
  have he : e < s.heap.objs.size := Heap.lt_size he1
  unfold pyNext
  refine wpAny_bind (wpAny_attempt (wpAny_callSpecial?_slot (name := Str.ofString "__next__") hit.typeIs slot_listiter_next
    (wpAny_call_entry slot_listiter_next hit.typeIs entry_listiter_next ?_ (args_listiter_next _))))
  show wpAny _ _ (field (.ref it) 0 >>= _) _ _ s
  refine wpAny_bind (wpAny_field ho hd (x := .ref l) rfl ?_)
  show wpAny _ _ (if (Value.ref l == Value.none) = true then _ else _) _ _ s
  rw [if_neg (show ¬ ((Value.ref l == Value.none) = true) from Bool.false_ne_true)]
  show wpAny _ _ (field (.ref it) 1 >>= _) _ _ s
  refine wpAny_bind (wpAny_field ho hd (x := .int i 0) rfl ?_)
  show wpAny _ _ (seqItems? (.ref l) >>= _) _ _ s
  refine wpAny_bind (wpAny_seqItems hol hdl ?_)
  simp only [Int.toNat_natCast, hx]
  refine wpAny_bind (wpAny_rule (wpAny_bind (wpAny_setField ho hd (by simp) ?_)))
  show wpAny _ _ (newExc (.type "StopIteration") [] >>= _) _ _ _
  refine wpAny_bind ?_
  simp only [newExc, newTuple]
  refine wpAny_bind (wpAny_newObj_type ?_ (by size_fits))
  refine wpAny_bind (m := firstArgMember _ _) (wpAny_of_eq (a := Value.none) (by first | rfl | (simp only [firstArgMember]; rfl)) ?_)
  refine wpAny_newObj_type ?_ (by size_fits)
  generalize hH : ((s.heap.update it (Obj.mapFields fun x => x.setIfInBounds 0 Value.none)).push { cls := Value.type "tuple", dict := none, data := Data.seq ([] : List Value).toArray }) = H
  have hsz : H.objs.size = s.heap.objs.size + 1 := by rw [← hH, Heap.size_push, Heap.size_after_update]
  have old : ∀ b o, b ≠ it → s.heap.get? b = some o → H.get? b = some o := fun b o hb hbo => by
    rw [← hH]
    exact Heap.get?_push_of_some _ ((Heap.get?_update_other _ _ (Ne.symm hb)).trans hbo)
  refine raiseNew_handled (e := e) hh ⟨oe, ws, Heap.get?_push_of_some _ (old e oe ne he1), he2, he3⟩ (Nat.ne_of_lt (show e < H.objs.size by rw [hsz]; exact Nat.lt_succ_of_lt he)) (Heap.get?_push_size _ rfl) rfl (by simp; omega) ?_
  refine wpAny_bind (wpAny_isInstance (T := "StopIteration") (b := true) ⟨_, Heap.get?_update_self _ (Heap.get?_push_size _ rfl) rfl, rfl⟩ isSubtype_stop ?_)
  refine wpAny_pure (hQ _ fun b o hb hbo => ?_)
  have h1 := old b o hb hbo
  exact (Heap.get?_update_other _ _ (Nat.ne_of_gt (Heap.lt_size h1))).trans (Heap.get?_push_of_some _ h1)
theorem list_walksH {I ax : Addr} (hh : A.handled = some (.ref e)) (hne : ax ≠ I) (heI : e ≠ I) (items : Array Value) :
    Walks prog w A I [I, ax, e] [I] items.size (fun i v => items[i]? = some v) (fun i h => h.IsListIter I ax i ∧ h.IsList ax items ∧ NoCtx h e) where
  sub := fun b hb => by simp at hb; simp [hb]
  frame := fun _ _ _ st hk => ⟨st.1.at fun o x => hk I (by simp) o x, st.2.1.at fun o x => hk ax (by simp) o x, by
    obtain ⟨oe, vs, h1, h2⟩ := st.2.2
    exact ⟨oe, vs, hk e (by simp) oe h1, h2⟩⟩
  item := fun i s Q E hi st hQ => by
    refine wpAny_pyNext_list_item st.1 st.2.1 (x := items[i]) (by simp [hi]) fun h' hit' hs' => ?_
    refine hQ _ h' s.toks (by simp [hi]) ⟨hit', st.2.1.extBut hs'.extBut hne, ?_⟩ fun b o hb x => hs'.extBut b o (fun h => hb (by simp [h])) x
    obtain ⟨oe, vs, h1, h2⟩ := st.2.2
    exact ⟨oe, vs, hs'.extBut e oe heI h1, h2⟩
  done := fun s Q E st hQ => pyNext_list_endH hh st.2.2 heI st.1 st.2.1 (by simp) fun h' he' => hQ h' s.toks fun b o hb x => he' b o (fun h => hb (by simp [h])) x
  self := fun _ _ _ _ st hQ => wpAny_pyIter_listiter st.1 hQ
end
section
variable {prog : Program} {w : World} {A : Around} {E : Value → Shared → Prop} {s : Shared} {h₀ : Heap} {L : Addr} {m : Str → Option Value} {env : Env}
/-- a comprehension over a made list while an exception without a context is handled: its source -/
def HldSrc (prog : Program) (w : World) (A : Around) (h₀ : Heap) (L : Addr) (m : Str → Option Value) (env : Env) (elt : Expr) (x : Str) (scope : Scope) (cl : List (Str × Addr)) (Fin : Shared → List Value → List (Addr × Obj) → Prop) (xv : Value) (s₁ : Shared) : Prop :=
  ∃ ax its k e oe ws news, xv = .ref ax ∧ A.handled = some (.ref e) ∧ Fr h₀ L s₁.heap m ∧ News h₀ L s₁.heap news ∧ (ax, W.listOf its k) ∈ news ∧ (e, oe) ∈ news ∧ oe.data = .fields ws ∧ ws[2]? = some .none ∧ its.size ≤ sizeLine ∧
    ∀ s₂ : Shared, (∃ h, s₂ = { s₁ with heap := h }) → LCg.CompRest prog w A h₀ L m env elt x scope cl s₂ (fun nw => (ax, W.listOf its k) ∈ nw ∧ (e, oe) ∈ nw) (fun i v => its[i]? = some v) (Fin s₂) its.size 0 [] news
theorem ListComp_H {elt iter : Expr} {x : Str} {px : Pos} {scope : Scope} {cl : List (Str × Addr)} {pos : Pos} {Q : Value → Shared → Prop} (_F₀ : Fr h₀ L s.heap m)
    (hclos : closureFor scope env = pure cl) (hcell : ∀ y ∈ scope.names, y.2 ≠ .cell) (hkind : scope.kind = .function)
    (hnames : ∀ y ∈ scope.names, y.2 = .local → scope.names.lookup y.1 = some .local) (hx : scope.names.lookup x = some .local)
    (h : wpAny (model prog w) A (eval iter env) (HldSrc prog w A h₀ L m env elt x scope cl (fun s₂ => LCg.FinE h₀ L m s₂ Q)) E s)
    (hs : ∀ x, foldedSetIterable iter env x = pure x := by intro _; rfl) :
    wpAny (model prog w) A (eval (.ListComp elt [⟨.Name x px, iter, [], 0⟩] scope pos) env) Q E s := by
  rw [eval_ListComp]
  refine wpAny_comprehension_free (use := none) rfl hs hclos hkind hnames (wpAny_mono h (fun xv s₁ h₁ => ?_) fun _ _ e => e)
  obtain ⟨ax, its, k, e, oe, ws, news, rfl, hh, F, N, hm, hme, hd, h2, hsz, R⟩ := h₁
  have hl : s₁.heap.IsList ax its := ⟨_, (N _ hm).1, rfl, k, rfl⟩
  have hlt : ax < s₁.heap.objs.size := Heap.lt_size (N _ hm).1
  have helt : e < s₁.heap.objs.size := Heap.lt_size (N _ hme).1
  refine wpAny_pyIter_list hl ?_
  have up : ∀ b o, s₁.heap.get? b = some o → (s₁.heap.push { cls := .type "list_iterator", data := .fields #[.ref ax, .int 0 0] }).get? b = some o := fun b o x => Heap.get?_push_of_some _ x
  refine LCg.block_U (list_walksH hh (Nat.ne_of_lt hlt) (Nat.ne_of_lt helt) its) hsz (fun i h st => by obtain ⟨o, x, _⟩ := st.1; exact ⟨o, x⟩) (fun i h h' o nw st x x' _ N' S => ?_) hcell hkind hx
    ⟨⟨_, Heap.get?_push_size _ rfl, rfl, rfl⟩, hl.push _, oe, ws, up _ _ (N _ hme).1, hd, h2⟩ (fun b hb => ?_)
    (F.keeps up) (N.grown up) (Nat.ne_of_lt F.ns.lt) (next_is_new F) (fun p hp => Nat.ne_of_lt (Heap.lt_size (N p hp).1)) ⟨hm, hme⟩ (R _ ⟨_, rfl⟩) ?_
  · obtain ⟨o', q, r⟩ := st.1
    rw [x] at q
    cases q
    exact ⟨⟨o, x', r⟩, ⟨_, (N' _ S.1).1, rfl, k, rfl⟩, oe, ws, (N' _ S.2).1, hd, h2⟩
  · show b < (s₁.heap.push _).objs.size
    rw [Heap.size_push]
    rcases List.mem_cons.mp hb with rfl | hb
    · exact Nat.lt_succ_self _
    · rcases List.mem_cons.mp hb with rfl | hb
      · exact Nat.lt_succ_of_lt hlt
      · rw [List.mem_singleton.mp hb]; exact Nat.lt_succ_of_lt helt
  · intro D C h tk m' ys news' F' N' o1 hn hC₀ hD₀ hCL hDL hCD offC fin
    refine ⟨m', hn, fun h'' hs'' => fin D h'' tk (F'.change hs'' hCL hC₀) (fun p hp => ?_) o1⟩
    refine ⟨hs''.extBut _ _ ?_ (N' p hp).1, (N' p hp).2⟩
    rcases List.mem_cons.mp hp with rfl | hp
    · exact Ne.symm hCD
    · exact offC p hp
/-- the turns of a comprehension over ints that makes texts -/
theorem int_rest {elt : Expr} {x : Str} {scope : Scope} {cl : List (Str × Addr)} {vs : List Value} {ns : List Int} {S : List (Addr × Obj) → Prop} {Fin : List Value → List (Addr × Obj) → Prop} {news : List (Addr × Obj)} (g : Int → Str) (hi : IntsAre vs ns)
    (turn : ∀ c t I oI C oC D m₂ ys h tk (E' : Value → Shared → Prop), c ∈ ns → LCg.NsObj oC m₂ → m₂ x = some (.int c t) → Fr h₀ L h m → News h₀ L h ((I, oI) :: (C, oC) :: (D, LCg.lst ys) :: news) → LCg.Off3 I C D news → ((@Ne Nat I C) ∧ (@Ne Nat I D) ∧ (@Ne Nat C D)) →
      wpAny (model prog w) A (eval elt (compEnvC scope cl C env)) (LCg.CompEnd h₀ L m { s with heap := h, toks := tk } I oI C oC D (LCg.lst ys) S (fun y news' => news' = news ∧ ∃ t : Tok, y = .str (g c) t)) E' { s with heap := h, toks := tk })
    (fin : ∀ ys, StrsAre ys (ns.map g) → Fin ys news) : LCg.CompRest prog w A h₀ L m env elt x scope cl s S (fun i v => vs.toArray[i]? = some v) Fin vs.toArray.size 0 [] news := by
  have r := rest_turns (s := s) (P := fun i v => vs.toArray[i]? = some v) (Fin := Fin) (items := ns) (fun c v => ∃ t : Tok, v = .int c t) (fun c y => ∃ t : Tok, y = .str (g c) t) (fun l ys => StrsAre ys (l.map g))
    (fun i v c hc hv => by
      obtain ⟨c', t, rfl, e⟩ := IntsAre.at hi i v (by simpa using hv)
      rw [hc] at e
      exact ⟨t, by rw [Option.some.inj e]⟩)
    .nil (fun l ys c y hp ⟨t, e⟩ => by rw [e, List.map_append]; exact kct_snoc hp)
    (fun c v I oI C oC D m₂ ys h tk E' hc hv hC hx F N off ne => by
      obtain ⟨t, rfl⟩ := hv
      exact turn c t I oI C oC D m₂ ys h tk E' hc hC hx F N off ne) fin
  have hl : vs.toArray.size = ns.length := by rw [List.size_toArray]; exact hi.length
  rw [hl]
  exact r
end
end Mine
end
/-! ## PureS0201 -/
section
open PySem PySem.W PyProof PyProof.Rows
namespace Mine
/-- the places of the odd runs, as the walk makes them -/
def oddStep (rs : List Int) (l : List Int) (k : Int) : List Int := if (rs.getD k.toNat 0).fmod 2 = 1 then l ++ [k] else l
def oddsOf (rs : List Int) : List Int := (rangeKs 0 rs.length).foldl (oddStep rs) []
def behindOf (rs : List Int) (k : Int) : Int := (rs.drop (k + 1).toNat).sum + (rs.length : Int) - 1 - k
theorem odd_grows (rs : List Int) : KPfGrows (oddStep rs) := fun l k => by
  unfold oddStep
  split
  · simp
  · omega
theorem odd_yes {rs l : List Int} {k : Int} {v : Int} (hv : rs[k.toNat]? = some v) (h : v.fmod 2 = 1) : oddStep rs l k = l ++ [k] := by
  unfold oddStep
  rw [List.getD_eq_getElem?_getD, hv]
  exact if_pos h
theorem odd_no {rs l : List Int} {k : Int} {v : Int} (hv : rs[k.toNat]? = some v) (h : ¬ v.fmod 2 = 1) : oddStep rs l k = l := by
  unfold oddStep
  rw [List.getD_eq_getElem?_getD, hv]
  exact if_neg h
theorem odd_fold_mem (rs : List Int) : ∀ (ks l : List Int), ∀ k ∈ ks.foldl (oddStep rs) l, k ∈ l ∨ k ∈ ks
  | [], _, k, h => .inl h
  | c :: ks, l, k, h => by
    rcases odd_fold_mem rs ks _ k h with h1 | h1
    · unfold oddStep at h1
      split at h1
      · rcases List.mem_append.mp h1 with h2 | h2
        · exact .inl h2
        · exact .inr (List.mem_singleton.mp h2 ▸ List.mem_cons_self)
      · exact .inl h1
    · exact .inr (List.mem_cons_of_mem _ h1)
theorem odds_range {rs : List Int} {k : Int} {r : List Int} (h : oddsOf rs = k :: r) : 0 ≤ k ∧ k < (rs.length : Int) := by
  have hm : k ∈ oddsOf rs := by rw [h]; exact List.mem_cons_self
  rcases odd_fold_mem rs _ _ k hm with h1 | h1
  · cases h1
  · have := mem_rangeKs h1
    omega
theorem odd_fold_len (rs : List Int) : ∀ (ks l : List Int), (ks.foldl (oddStep rs) l).length ≤ l.length + ks.length
  | [], l => by simp
  | c :: ks, l => by
    rw [List.foldl_cons, List.length_cons]
    have h1 := odd_fold_len rs ks (oddStep rs l c)
    have h2 : (oddStep rs l c).length ≤ l.length + 1 := by
      unfold oddStep
      split
      · simp
      · omega
    omega
theorem oddsOf_len (rs : List Int) : (oddsOf rs).length ≤ rs.length := by
  have h := odd_fold_len rs (rangeKs 0 rs.length) []
  have e : (rangeKs 0 rs.length).length = rs.length := by simp [rangeKs]
  rw [e, List.length_nil, Nat.zero_add] at h
  exact h
def sevenGo : List (List Int) → Bool
  | [] => true
  | rs :: rest => match oddsOf rs with
    | k :: _ => decide (behindOf rs k = k) || (rest.isEmpty && decide (behindOf rs k = k - 1))
    | [] => if rs.length > 1 then false else sevenGo rest
def runsOf (s : Str) : List Int := (Txt.split s (Str.ofString "h")).map fun r => (r.length : Int)
def stretchesOf (x : Str) : List Str := Txt.split x (Str.ofString " ")
def sevenF (x : Str) : Bool := sevenGo ((stretchesOf x).map runsOf)
def sevenPre (x : Str) (i : Nat) : Prop := sevenF x = sevenGo (((stretchesOf x).drop i).map runsOf)
theorem seven_start (x : Str) : sevenPre x 0 := rfl
theorem seven_drop {x : Str} {i : Nat} {s : Str} (h : (stretchesOf x)[i]? = some s) : ((stretchesOf x).drop i).map runsOf = runsOf s :: ((stretchesOf x).drop (i + 1)).map runsOf := by
  have hi : i < (stretchesOf x).length := by
    rcases Nat.lt_or_ge i (stretchesOf x).length with q | q
    · exact q
    · rw [List.getElem?_eq_none q] at h; cases h
  rw [List.drop_eq_getElem_cons hi, List.map_cons]
  rw [List.getElem?_eq_getElem hi] at h
  rw [Option.some.inj h]
theorem seven_next {x : Str} {i : Nat} {s : Str} (hp : sevenPre x i) (h : (stretchesOf x)[i]? = some s) (ho : oddsOf (runsOf s) = []) (hl : ¬ (runsOf s).length > 1) : sevenPre x (i + 1) := by
  unfold sevenPre at hp ⊢
  rw [hp, seven_drop h, sevenGo, ho]
  simp only [if_neg hl]
theorem seven_false {x : Str} {i : Nat} {s : Str} (hp : sevenPre x i) (h : (stretchesOf x)[i]? = some s) (ho : oddsOf (runsOf s) = []) (hl : (runsOf s).length > 1) : sevenF x = false := by
  unfold sevenPre at hp
  rw [hp, seven_drop h, sevenGo, ho]
  simp only [if_pos hl]
theorem seven_odd {x : Str} {i : Nat} {s : Str} {k : Int} {r : List Int} (hp : sevenPre x i) (h : (stretchesOf x)[i]? = some s) (ho : oddsOf (runsOf s) = k :: r) :
    sevenF x = (decide (behindOf (runsOf s) k = k) || (decide (i + 1 = (stretchesOf x).length) && decide (behindOf (runsOf s) k = k - 1))) := by
  unfold sevenPre at hp
  have hi : i < (stretchesOf x).length := by
    rcases Nat.lt_or_ge i (stretchesOf x).length with q | q
    · exact q
    · rw [List.getElem?_eq_none q] at h; cases h
  have e : (((stretchesOf x).drop (i + 1)).map runsOf).isEmpty = decide (i + 1 = (stretchesOf x).length) := by
    rw [Bool.eq_iff_iff]
    simp only [List.isEmpty_iff, List.map_eq_nil_iff, List.drop_eq_nil_iff, decide_eq_true_eq]
    omega
  rw [hp, seven_drop h, sevenGo, ho, e]
theorem seven_end {x : Str} {i : Nat} (hp : sevenPre x i) (h : i = (stretchesOf x).length) : sevenF x = true := by
  unfold sevenPre at hp
  rw [hp, h, List.drop_length]
  rfl
end Mine
end
/-! ## PureO0201 -/
section
open PySem PySem.W PyProof PyProof.Rows
namespace Mine
def octI (x : Int) : Int := if x.fmod 5 < 2 then 34 else if x.fmod 5 = 2 then 162 else (x.fdiv 5).fmod 256
def octsOf (ns : List Int) : List Int := (ns.take 24 ++ [ns.sum]).map octI
theorem oc_1 {pre os : List Int} {x : Int} (h : os = pre.map octI) (h1 : x.fmod 5 < 2) : os ++ [34] = (pre ++ [x]).map octI := by
  rw [h, List.map_append, List.map_cons, octI, if_pos h1]
  rfl
theorem oc_2 {pre os : List Int} {x : Int} (h : os = pre.map octI) (h1 : ¬ x.fmod 5 < 2) (h2 : x.fmod 5 = 2) : os ++ [162] = (pre ++ [x]).map octI := by
  rw [h, List.map_append, List.map_cons, octI, if_neg h1, if_pos h2]
  rfl
theorem oc_3 {pre os : List Int} {x : Int} (h : os = pre.map octI) (h1 : ¬ x.fmod 5 < 2) (h2 : ¬ x.fmod 5 = 2) : os ++ [(x.fdiv 5).fmod 256] = (pre ++ [x]).map octI := by
  rw [h, List.map_append, List.map_cons, octI, if_neg h1, if_neg h2]
  rfl
theorem octI_range (x : Int) : 0 ≤ octI x ∧ octI x < 256 := by
  unfold octI
  split
  · omega
  · split
    · omega
    · rw [Int.fmod_eq_emod_of_nonneg _ (by decide)]
      omega
theorem octs_range (ns : List Int) : ∀ k ∈ octsOf ns, 0 ≤ k ∧ k < 256 := by
  intro k hk
  obtain ⟨x, _, rfl⟩ := List.mem_map.mp hk
  exact octI_range x
theorem octs_len (ns : List Int) : (octsOf ns).length ≤ 25 := by
  unfold octsOf
  rw [List.length_map, List.length_append, List.length_take, List.length_singleton]
  omega
theorem oc_room {us : List Value} {pre os l post : List Int} {n : Int} (hi : IntsAre us os) (h : os = pre.map octI) (he : l = pre ++ n :: post) (hl : l.length ≤ 25) : us.toArray.size ≤ sizeLine := by
  rw [List.size_toArray, hi.length, h, List.length_map, sizeLine_eq]
  rw [he, List.length_append, List.length_cons] at hl
  omega
end Mine

end
/-! ## Ints0201 -/
section
open PySem PySem.W PyProof PyProof.Rows
namespace Mine
section
variable {prog : Program} {w : World} {A : Around} {E : Value → Shared → Prop} {s : Shared} {h₀ : Heap} {L : Addr} {m : Str → Option Value} {env : Env}
/-- the turns of a comprehension over ints that makes ints -/
theorem ii_rest {elt : Expr} {x : Str} {scope : Scope} {cl : List (Str × Addr)} {vs : List Value} {ns : List Int} {S : List (Addr × Obj) → Prop} {Fin : List Value → List (Addr × Obj) → Prop} {news : List (Addr × Obj)} (g : Int → Int) (hi : IntsAre vs ns)
    (turn : ∀ c t I oI C oC D m₂ ys h tk (E' : Value → Shared → Prop), c ∈ ns → LCg.NsObj oC m₂ → m₂ x = some (.int c t) → Fr h₀ L h m → News h₀ L h ((I, oI) :: (C, oC) :: (D, LCg.lst ys) :: news) → LCg.Off3 I C D news → ((@Ne Nat I C) ∧ (@Ne Nat I D) ∧ (@Ne Nat C D)) →
      wpAny (model prog w) A (eval elt (compEnvC scope cl C env)) (LCg.CompEnd h₀ L m { s with heap := h, toks := tk } I oI C oC D (LCg.lst ys) S (fun y news' => news' = news ∧ ∃ t : Tok, y = .int (g c) t)) E' { s with heap := h, toks := tk })
    (fin : ∀ ys, IntsAre ys (ns.map g) → Fin ys news) : LCg.CompRest prog w A h₀ L m env elt x scope cl s S (fun i v => vs.toArray[i]? = some v) Fin vs.toArray.size 0 [] news := by
  have r := rest_turns (s := s) (P := fun i v => vs.toArray[i]? = some v) (Fin := Fin) (items := ns) (fun c v => ∃ t : Tok, v = .int c t) (fun c y => ∃ t : Tok, y = .int (g c) t) (fun l ys => IntsAre ys (l.map g))
    (fun i v c hc hv => by
      obtain ⟨c', t, rfl, e⟩ := IntsAre.at hi i v (by simpa using hv)
      rw [hc] at e
      exact ⟨t, by rw [Option.some.inj e]⟩)
    .nil (fun l ys c y hp ⟨t, e⟩ => by rw [e, List.map_append]; exact hp.append (.cons _ _ .nil))
    (fun c v I oI C oC D m₂ ys h tk E' hc hv hC hx F N off ne => by
      obtain ⟨t, rfl⟩ := hv
      exact turn c t I oI C oC D m₂ ys h tk E' hc hC hx F N off ne) fin
  have hl : vs.toArray.size = ns.length := by rw [List.size_toArray]; exact hi.length
  rw [hl]
  exact r
end
end Mine
end
/-! ## C1 -/
section
open PySem PySem.W PyProof PyProof.Rows
namespace Mine
set_option maxRecDepth 100000 in
set_option maxHeartbeats 8000000 in
theorem parse_con (w : World) (mean : ExcName → Option Value) (mg mb : Str → Option Value) (x : Str) (tx : Tok) (hx : starts x) : Con 10 w mean mg mb 46 [.str x tx] (fun _ => True) (fun t => .str (parseF x) t) := by
  unfold Con
  k_with_none
  w_top off
  k_fill
  intro news dp un gd cn cs a ccd cl outer A₀ base h₀ L m s Q E B F X N T hk hd hu hpre hret
  k_with "exec While Compare cons nil" => k_while_given ["resp"] (fun (resp : Str) _ (d : Str) (i : Int) => 5 ≤ i ∧ i ≤ (resp.length : Int) ∧ (d.length : Int) ≤ i ∧ pInv resp d i) (fun (resp : Str) _ (d : Str) (i : Int) => resp.length - i.toNat) "dirname" "i"
  k_with "state" => first | exact p_start hx | exact p_two (by assumption) (by assumption) (by assumption) (by assumption) (by assumption) (by assumption) (by assumption) | exact p_sign (by assumption) (by assumption) (by assumption) (by assumption) (by assumption)
  have hlen : x.length ≤ 16777216 := Nat.le_trans hx.1 (by decide)
  have hlen2 : x.length ≤ 16000000 := hx.1
  have hs3 := starts3 hx
  have hs5 := starts5 hx
  refine wpAny_call ?_
  k_dflt cell_enter
  k_steps
  all_goals first
    | (exfalso; (rename (Txt.slice x none (some 3) != _) = true => hb); rw [hs3] at hb; exact absurd hb (by decide))
    | (exfalso; (rename (Txt.slice x (some 3) (some 5) != _) = true => hb); rw [hs5] at hb; exact absurd hb (by decide))
    | exact cb_retS hret (p_end (by assumption) (by assumption) (by assumption)) (by assumption) (by assumption)
    | exact cb_retS hret (p_quote_end (by assumption) (by assumption) (by assumption) (by assumption) (by assumption)) (by assumption) (by assumption)
    | exact cb_retS hret (p_quote_brk (by assumption) (by assumption) (by assumption) (by assumption) (by assumption) (by assumption)) (by assumption) (by assumption)

end Mine
end
/-! ## C2 -/
section
open PySem PySem.W PyProof PyProof.Rows
namespace Mine
set_option maxRecDepth 100000 in
set_option maxHeartbeats 8000000 in
theorem ctoi_con (w : World) (mean : ExcName → Option Value) (mg mb : Str → Option Value) (c : Nat) (tx : Tok) : Con 8 w mean mg mb 53 [.str (one c) tx] (fun _ => True) (fun t => .int (c : Int) t) := by
  unfold Con
  k_with_none
  w_top off
  k_fill
  intro news dp un gd cn cs a ccd cl outer A₀ base h₀ L m s Q E B F X N T hk hd hu hpre hret
  refine wpAny_call ?_
  k_dflt cell_enter
  unfold one
  k_steps
  exact cb_retI hret rfl (by assumption) (by assumption)
set_option maxRecDepth 100000 in
set_option maxHeartbeats 8000000 in
theorem ctoi_int_con (w : World) (mean : ExcName → Option Value) (mg mb : Str → Option Value) (b : Int) (tx : Tok) : Con 8 w mean mg mb 53 [.int b tx] (fun _ => True) (fun t => .int b t) := by
  unfold Con
  k_with_none
  w_top off
  k_fill
  intro news dp un gd cn cs a ccd cl outer A₀ base h₀ L m s Q E B F X N T hk hd hu hpre hret
  refine wpAny_call ?_
  k_dflt cell_enter
  k_steps
  exact cb_retI hret rfl (by assumption) (by assumption)
section
local macro_rules | `(tactic| walk_at "call ref") => `(tactic| (k_here; (with_reducible show wpAny _ _ (call (Value.ref 53) [Value.int _ _]) _ _ _); k_dflt (refine' Con.use (ctoi_int_con _ _ _ _ _ _) ?k1 ?k2 ?k3 ?k4 ?k5 ?k6 ?k7 ?k8 ?k9 ?_; (case k1 => k_asm); (case k2 => k_asm); (case k3 => k_asm); (case k4 => k_asm); (case k5 => k_asm); (case k6 => first | exact rfl | assumption); (case k7 => ktr_room); (case k8 => ktr_units); (case k9 => trivial)); intro t' h' tk' F' N'; (try dsimp only); (try k_fold)))
set_option maxRecDepth 100000 in
set_option maxHeartbeats 8000000 in
theorem isprint_con (w : World) (mean : ExcName → Option Value) (mg mb : Str → Option Value) (b : Int) (tx : Tok) : Con 9 w mean mg mb 60 [.int b tx] (fun _ => True) (fun _ => .bool (decide (32 ≤ b ∧ b ≤ 126))) := by
  unfold Con
  k_with_none
  w_top off
  k_fill
  intro news dp un gd cn cs a ccd cl outer A₀ base h₀ L m s Q E B F X N T hk hd hu hpre hret
  refine wpAny_call ?_
  k_dflt cell_enter
  k_steps
  all_goals exact cb_retB hret (by rw [Bool.eq_iff_iff]; simp only [decide_eq_true_eq]; omega) (by assumption) (by assumption)
end
section
local macro_rules | `(tactic| walk_at "call ref") => `(tactic| (k_here; (with_reducible show wpAny _ _ (call (Value.ref 53) [Value.str _ _]) _ _ _); k_dflt (refine' Con.use (ctoi_con _ _ _ _ _ _) ?k1 ?k2 ?k3 ?k4 ?k5 ?k6 ?k7 ?k8 ?k9 ?_; (case k1 => k_asm); (case k2 => k_asm); (case k3 => k_asm); (case k4 => k_asm); (case k5 => k_asm); (case k6 => first | exact rfl | assumption); (case k7 => ktr_room); (case k8 => ktr_units); (case k9 => trivial)); intro t' h' tk' F' N'; (try dsimp only); (try k_fold)))
local macro_rules | `(tactic| walk_at "call ref") => `(tactic| (k_here; (with_reducible show wpAny _ _ (call (Value.ref 60) _) _ _ _); k_dflt (refine' Con.use (isprint_con _ _ _ _ _ _) ?k1 ?k2 ?k3 ?k4 ?k5 ?k6 ?k7 ?k8 ?k9 ?_; (case k1 => k_asm); (case k2 => k_asm); (case k3 => k_asm); (case k4 => k_asm); (case k5 => k_asm); (case k6 => first | exact rfl | assumption); (case k7 => ktr_room); (case k8 => ktr_units); (case k9 => trivial)); intro t' h' tk' F' N'; (try dsimp only); (try k_fold)))
local macro_rules | `(tactic| walk_at "call builtin:chr") => `(tactic| (refine chr_of_range (or32_range (by assumption)).1 (or32_range (by assumption)).2 ?_))
local macro_rules | `(tactic| walk_at "call builtin:chr") => `(tactic| (refine chr_of_range (by simp only [and127 (by assumption), and31 (by assumption), or128 (by assumption), or32 (by assumption)]; omega) (by simp only [and127 (by assumption), and31 (by assumption), or128 (by assumption), or32 (by assumption)]; omega) ?_))
set_option maxRecDepth 100000 in
set_option maxHeartbeats 8000000 in
theorem ascii_con (w : World) (mean : ExcName → Option Value) (mg mb : Str → Option Value) (c : Nat) (hc : c < 256) (tx : Tok) : Con 10 w mean mg mb 67 [.str (one c) tx] (fun _ => True) (fun t => .str (asciiF c) t) := by
  unfold Con
  k_with_none
  w_top off
  k_fill
  intro news dp un gd cn cs a ccd cl outer A₀ base h₀ L m s Q E B F X N T hk hd hu hpre hret
  refine wpAny_call ?_
  k_dflt cell_enter
  k_steps
  exact cb_retS hret (by rw [and127 hc]; rfl) (by assumption) (by assumption)
set_option maxRecDepth 100000 in
set_option maxHeartbeats 8000000 in
theorem ctrl_con (w : World) (mean : ExcName → Option Value) (mg mb : Str → Option Value) (c : Nat) (hc : c < 256) (tx : Tok) : Con 10 w mean mg mb 74 [.str (one c) tx] (fun _ => True) (fun t => .str (ctrlF c) t) := by
  unfold Con
  k_with_none
  w_top off
  k_fill
  intro news dp un gd cn cs a ccd cl outer A₀ base h₀ L m s Q E B F X N T hk hd hu hpre hret
  refine wpAny_call ?_
  k_dflt cell_enter
  k_steps
  exact cb_retS hret (by rw [and31 hc]; rfl) (by assumption) (by assumption)
set_option maxRecDepth 100000 in
set_option maxHeartbeats 8000000 in
theorem alt_con (w : World) (mean : ExcName → Option Value) (mg mb : Str → Option Value) (c : Nat) (hc : c < 256) (tx : Tok) : Con 10 w mean mg mb 81 [.str (one c) tx] (fun _ => True) (fun t => .str (altF c) t) := by
  unfold Con
  k_with_none
  w_top off
  k_fill
  intro news dp un gd cn cs a ccd cl outer A₀ base h₀ L m s Q E B F X N T hk hd hu hpre hret
  refine wpAny_call ?_
  k_dflt cell_enter
  k_steps
  exact cb_retS hret (by rw [or128 hc]; rfl) (by assumption) (by assumption)
set_option maxRecDepth 100000 in
set_option maxHeartbeats 8000000 in
theorem unctrl_con (w : World) (mean : ExcName → Option Value) (mg mb : Str → Option Value) (c : Nat) (hc : c < 256) (tx : Tok) : Con 11 w mean mg mb 88 [.str (one c) tx] (fun _ => True) (fun t => .str (unctrlF c) t) := by
  unfold Con
  k_with_none
  w_top off
  k_fill
  intro news dp un gd cn cs a ccd cl outer A₀ base h₀ L m s Q E B F X N T hk hd hu hpre hret
  refine wpAny_call ?_
  k_dflt cell_enter
  k_steps
  all_goals first
    | exact cb_retS hret (un1 hc (by assumption) (by assumption)) (by assumption) (by assumption)
    | exact cb_retS hret (un2 hc (by assumption)) (by assumption) (by assumption)
    | exact cb_retS hret (un3 hc (by assumption) (by assumption) (by assumption)) (by assumption) (by assumption)
    | exact cb_retS hret (un4 hc (by assumption) (by assumption) (by assumption)) (by assumption) (by assumption)
    | exact cb_retS hret (un5 hc (by assumption) (by assumption) (by assumption)) (by assumption) (by assumption)
    | exact cb_retS hret (un6 hc (by assumption) (by assumption) (by assumption)) (by assumption) (by assumption)
end
end Mine
end
/-! ## C4 -/
section
open PySem PySem.W PyProof PyProof.Rows
namespace Mine
def HasInts (l : Addr) (ns : List Int) (news : List (Addr × Obj)) : Prop := ∃ vs n, (l, W.listOf vs.toArray n) ∈ news ∧ IntsAre vs ns
theorem hns_of {ns : List Int} {i : Nat} {k : Int} (hns : ∀ k ∈ ns, 0 ≤ k ∧ k < 256) (h : ns[i]? = some k) : 0 ≤ k ∧ k < 256 := hns k (List.mem_of_getElem? h)
section
local macro_rules | `(tactic| walk_at "call builtin:len") => `(tactic| (k_here; (with_reducible show wpAny _ _ (call (Value.builtin "len") [Value.ref _]) _ _ _); k_dflt (refine' kst_len ?k1 ?k2 ?k3 ?k4 ?_; (case k1 => k_asm); (case k2 => first | assumption | exact List.Mem.tail _ (by assumption) | exact List.Mem.tail _ (List.Mem.tail _ (by assumption))); (case k3 => exact IntsAre.length (by assumption)); (case k4 => omega)); k_whole))
local macro_rules | `(tactic| walk_at "subscriptTail Name BinOp ref int") => `(tactic| (k_here; k_dflt (refine' list_item ?k1 ?k2 ?k3 ?k4 ?k5 ?k6 ?_ ?k7; (case k1 => k_asm); (case k2 => first | assumption | exact List.Mem.tail _ (by assumption) | exact List.Mem.tail _ (List.Mem.tail _ (by assumption))); (case k3 => assumption); (case k4 => omega); (case k5 => omega); (case k6 => omega); (case k7 => with_unfolding_all rfl)); k_whole; intro kI tI hI; (have hIr := hns_of (by assumption) hI)))
local macro_rules | `(tactic| walk_at "binaryOp Add str str") => `(tactic| ((refine KOpn.add (t_add_ok (by assumption) (by assumption) (by assumption) (by assumption)) ?_); intro _ _ _))
set_option maxRecDepth 100000 in
set_option maxHeartbeats 8000000 in
theorem told_con (w : World) (mean : ExcName → Option Value) (mg mb : Str → Option Value) (l : Addr) (ns : List Int) (hns : ∀ k ∈ ns, 0 ≤ k ∧ k < 256) (hlen : ns.length ≤ 1000) :
   Con 20 w mean mg mb 109 [.ref l] (HasInts l ns) (fun t => .str ⟨(tell (ns.map Int.toNat)).toArray⟩ t) := by
  unfold Con
  k_with_none
  w_top off
  k_fill
  intro news dp un gd cn cs a ccd cl outer A₀ base h₀ L m s Q E B F X N T hk hd hu hpre hret
  obtain ⟨vs, n, hmem, hints⟩ := hpre
  k_with "exec While Compare cons nil" => k_while (fun _ (d : Str) (p : Int) => 0 ≤ p ∧ p ≤ (ns.length : Int) + 1 ∧ (d.length : Int) ≤ p ∧ tInv ns d p) (fun _ (d : Str) (p : Int) => ns.length + 1 - p.toNat) "told" "place"
  k_with "exec While Compare cons nil" => k_while_given ["place"] (fun (p : Int) _ (r : Int) => 0 ≤ r ∧ p + r ≤ (ns.length : Int) ∧ ∀ j : Nat, p ≤ (j : Int) → (j : Int) < p + r → ns[j]? = some 34) (fun (p : Int) _ (r : Int) => ns.length - (p + r).toNat) "run"
  k_with "state" => first | exact t_start ns | exact t_inner0 (by assumption) (by assumption) | exact t_inner (by assumption) (by assumption) (by assumption) (by assumption) (by assumption) | exact t_turn0 (by assumption) (by assumption) (by assumption) (by assumption) (by assumption) (by assumption) (by assumption) (by assumption) | exact t_turn1 (by assumption) (by assumption) (by assumption) (by assumption) (by assumption) (by assumption) (by assumption) (by assumption) (by assumption) (by assumption) (by assumption)
  k_with "measure" => exact t_meas (by assumption) (by assumption) (by assumption) (by assumption)
  refine wpAny_call ?_
  k_dflt cell_enter
  k_steps
  all_goals first
    | exact cb_retS hret (t_odd (by assumption) (by assumption) (by assumption) (by assumption) (by assumption) hns (by assumption) (by assumption)) (by assumption) (cb_drop (by assumption) (fun p hp => List.Mem.tail _ (List.Mem.tail _ hp)))
    | exact cb_retS hret (t_end (by assumption) (by assumption) (by assumption)) (by assumption) (by assumption)
end
end Mine
end
/-! ## C5 -/
section
open PySem PySem.W PyProof PyProof.Rows
namespace Mine
/-- what a call of a def gives back to the law's own frame -/
def ConL (w : World) (mean : ExcName → Option Value) (mg mb : Str → Option Value) (f : Addr) (vs : List Value) (Pre : List (Addr × Obj) → Prop) (R : Tok → Value) : Prop :=
  ∀ (news : List (Addr × Obj)) (cn : Str) (cs : Scope) (a : Addr) (ccd : Value) (h₀ : Heap) (L : Addr) (m : Str → Option Value) (s : Shared) (Q E : Value → Shared → Prop),
    Below callerA h₀ [] h₀ → Fr h₀ L s.heap m → (hd0201.heap_39 w.params).In h₀ → News h₀ L s.heap news → Top hd0201.view_39 (looseW hd0201.view_39 []) mean mg mb h₀ → cs.kind = .function →
    Pre news →
    (∀ (t : Tok) (h' : Heap) (tk' : Nat), Fr h₀ L h' m → News h₀ L h' news → Q (R t) { s with heap := h', toks := tk' }) →
    wpAny (model PySem.Challenge.rw_il0201_01.row.prog w) (callerA.deeper (envOf cn cs L a ccd)) (call (.ref f) vs) Q E s
section
local macro_rules | `(tactic| walk_at "leaving ref") => `(tactic| (k_here; k_dflt (refine' leave_raise2 ?k1 ?k0 ?k2 ?k3 ?_; (case k0 => first | assumption | exact Heap.MadeExcOf.of (by assumption)); (case k2 => assumption); (case k1 => assumption); (case k3 => k_asm); k_whole); intro h' t' S' U' kc'; (try dsimp only at S' U' kc' ⊢)))
local macro_rules | `(tactic| walk_at "noteFrame ref") => `(tactic| (k_here; (rename RaisedS _ _ _ _ _ _ _ _ _ => rsX); k_dflt (refine' caught2 ?R ?F ?K ?U ?XB ?TB ?D ?T0 ?kc ?ex ?q ?_; (case R => assumption); (case F => assumption); (case K => assumption); (case U => assumption); (case XB => assumption); (case TB => assumption); (case D => assumption); (case T0 => first | assumption | exact KtsTurn.refl); (case kc => assumption); (case ex => k_is); (case q => kts_isx); k_whole); intro h' g' oe' ot' ws' nt' tk' T' F' N' e1' e2' e3' e4' e5' e6' K' X' P' D'; (try k_lift K')))
local macro_rules | `(tactic| walk_at "call type:str") => `(tactic| (k_here; (with_reducible show wpAny _ _ (call (Value.type "str") [Value.ref _]) _ _ _); k_dflt (refine' got_str2 ?k1 ?k2 ?k3 ?k4 ?k5 ?k6 ?k7 ?k8 ?k9 ?k10 ?_; (case k3 => k_asm); (case k4 => assumption); (case k5 => assumption); (case k6 => assumption); (case k7 => assumption); (case k8 => assumption); (case k1 => k_units); (case k2 => k_in); (case k9 => k_is); (case k10 => k_is); k_whole)))
local macro_rules | `(tactic| walk_at "eval ListComp") => `(tactic| (k_here; k_dflt (refine ListComp_H (_F₀ := by k_asm) (by with_unfolding_all rfl) (by decide) (by rfl) (by decide) (by rfl) ?_)))
local macro_rules | `(tactic| walk_at "call builtin:chr") => `(tactic| (refine chr_of_range (by omega) (by omega) ?_))
local macro_rules | `(tactic| walk_at "call builtin:str.join") => `(tactic| ((with_reducible show wpAny _ _ (call (Value.builtin "str.join") [Value.str _ _, Value.ref _]) _ _ _); (with_reducible rename StrsAre _ _ => hSA); refine join_listW (News.isList (by k_asm) (by k_mem)) hSA (by decide) (by assumption) ?_; intro _ _))
local macro_rules | `(tactic| walk_at "ite") => `(tactic| (refine ite_pos (by assumption) ?_))
set_option maxRecDepth 100000 in
set_option maxHeartbeats 8000000 in
theorem refused_con (w : World) (mean : ExcName → Option Value) (mg mb : Str → Option Value) (x : Str) (tx : Tok) (l : Addr) (ns : List Int) (hns : ∀ k ∈ ns, 0 ≤ k ∧ k < 256) (hlen : ns.length ≤ 1000)
   (hx : Txt.slice x none (some 3) ≠ Str.ofString "257") (e : x.cps.toList = ns.map Int.toNat) :
   ConL w mean mg mb 131 [.str x tx, .ref l] (HasInts l ns) (fun _ => .bool true) := by
  unfold ConL
  k_with_none
  w_top off
  k_fill
  intro news cn cs a ccd h₀ L m s Q E B F X N T hk hpre hret
  obtain ⟨vs, n, hmem, hints⟩ := hpre
  have hxl : x.length ≤ 1000 := by
    rw [len_co, e, List.length_map]
    exact hlen
  have hne : (Txt.slice x none (some 3) != Str.ofString "257") = true := bne_iff_ne.mpr hx
  refine wpAny_call ?_
  k_dflt (refine' code_defS0 ?k1 ?k2 ?k3 ?k4 ?k5 ?kA ?k6 ?k7 ?k8 ?k9 ?kB ?_ ?cK ?c2 ?c3 ?c4 ?c5; (case kA => exact rfl); (case k2 => k_asm); (case k1 => k_asm); (case k3 => k_asm); (case k4 => k_asm); (case k5 => k_asm); (case k6 => k_is); (case k7 => k_is); (case k8 => k_room); (case k9 => first | exact binds_K (by k_in) rfl (by k_is) rfl rfl rfl | exact BindsTo.of_eq rfl | fail "kts_go: no rule for these arguments"); (case kB => exact locs rfl); (case cK => assumption); (case c2 => exact rfl); (case c3 => exact rfl); (case c4 => exact rfl); (case c5 => decide); k_whole; intro g' L' h' FG' F' N' B' X' T' D'; (try dsimp only); (try k_lift B'); (try k_fold))
  k_steps
  refine ⟨_, _, _, _, _, _, _, rfl, by rfl, by k_asm, by k_asm, List.Mem.tail _ (List.Mem.tail _ hmem), List.Mem.head _, by assumption, by assumption, by (rw [List.size_toArray, hints.length, sizeLine_eq]; omega), ?_⟩
  rintro _ ⟨h2, rfl⟩
  refine int_rest (fun c => ⟨#[c.toNat]⟩) hints (fun c t I oI C oC D m₂ ys h tk E' hc hC hx' F' N' off ne => ?_) (fun ys hys => ?_)
  · have hcr := hns c hc
    k_steps
    exact LCg.CompEnd.intro F' N' _ (fun _ hp => hp) off ⟨List.Mem.tail _ (List.Mem.tail _ hmem), List.Mem.head _⟩ ⟨rfl, _, rfl⟩
  · have hw : (((ns.map fun c : Int => (⟨#[c.toNat]⟩ : Str)).map (·.length)).sum + (ns.map fun c : Int => (⟨#[c.toNat]⟩ : Str)).length ≤ 1048576) := by
      have h1 := sum_len_le (fun c : Int => (⟨#[c.toNat]⟩ : Str)) 1 (fun _ => Nat.le_refl 1) ns
      rw [List.length_map]
      omega
    k_steps
    exact cb_retB hret (chr_join_eq e) (by assumption) (cb_drop (by assumption) (fun p hp => by first | exact hp | exact List.Mem.tail _ hp | exact List.Mem.tail _ (List.Mem.tail _ (List.Mem.tail _ hp))))
end
end Mine
end
/-! ## C3 -/
section
open PySem PySem.W PyProof PyProof.Rows
namespace Mine
section
local macro_rules | `(tactic| walk_at "eval ListComp") => `(tactic| (k_here; k_dflt (refine ListComp_T (_F₀ := by k_asm) (by with_unfolding_all rfl) (by decide) (by rfl) (by decide) (by rfl) ?_)))
local macro_rules | `(tactic| walk_at "callWith ref") => `(tactic| (k_here; k_dflt (first
  | (refine' callWith_K ?k1 ?k2 ?_; (case k1 => k_asm); (case k2 => assumption); k_whole)
  | (refine' callWith_K0 ?k1 ?k2 ?_; (case k1 => k_in); (case k2 => assumption); k_whole))))
local macro_rules | `(tactic| walk_at "call builtin:str.join") => `(tactic| ((with_reducible show wpAny _ _ (call (Value.builtin "str.join") [Value.str _ _, Value.ref _]) _ _ _); (with_reducible rename StrsAre _ _ => hSA); refine join_listW (News.isList (by k_asm) (by k_mem)) hSA (by decide) (by assumption) ?_; intro _ _))
set_option maxRecDepth 100000 in
set_option maxHeartbeats 8000000 in
theorem line_con (w : World) (mean : ExcName → Option Value) (mg mb : Str → Option Value) (f : Addr) (g : Nat → Str) (hand : ∀ c t, c < 256 → Con 11 w mean mg mb f [.str (one c) t] (fun _ => True) (fun t => .str (g c) t))
   (hf : keepIn (hd0201.heap_39 w.params) (.ref f) = true)
   (x : Str) (tx : Tok) (hx : ∀ c ∈ x.cps.toList, c < 256) (hlen : x.length ≤ 1000) (gl: ∀ c, (g c).length ≤ 4) :
   Con 20 w mean mg mb 126 [.ref f, .str x tx] (fun _ => True) (fun t => .str ⟨(x.cps.toList.flatMap (fun c => (g c).cps.toList)).toArray⟩ t) := by
  unfold Con
  k_with_none
  w_top off
  k_fill
  intro news dp un gd cn cs a ccd cl outer A₀ base h₀ L m s Q E B F X N T hk hd hu hpre hret
  refine wpAny_call ?_
  k_dflt (refine' code_defC ?k1 ?k2 ?k3 ?k4 ?k5 ?kA ?kF ?kK ?k6 ?k7 ?k8 ?k9 ?kB ?kD ?_ ?c2 ?c3 ?c4; (case kA => exact rfl); (case kF => exact rfl); (case kK => assumption); (case k1 => k_asm); (case k2 => k_asm); (case k3 => k_asm); (case k4 => k_asm); (case k5 => k_asm); (case k6 => k_is); (case k7 => k_is); (case k8 => ktr_room); (case k9 => first | exact BindsTo.of_eq rfl | exact binds_K (by k_in) rfl (by k_is) rfl rfl rfl | fail "k_enter: no rule for these arguments"); (case kB => exact rfl); (case kD => decide +kernel); (case c2 => exact rfl); (case c3 => exact rfl); (case c4 => exact rfl); k_whole; intro g' L' h' tk' cells' FG' F' N' Y' B' X' T' l1; (try k_lt l1); k_cells Y'; (try simp only [List.cons_append, List.nil_append] at N'); (try dsimp only); (try k_lift B'); (try k_fold))
  k_steps
  refine ⟨_, _, _, rfl, by rfl, by k_asm, by k_asm, by (rw [sizeLine_eq]; omega), ?_⟩
  rintro _ ⟨h2, rfl⟩
  refine txt_rest g (fun c t I oI C oC D m₂ ys h tk E' hc hC hx' F' N' off ne => ?_) (fun ys hys => ?_)
  · k_steps
    k_dflt (refine' Con.use (hand c t (hx c hc)) ?k1 ?k2 ?k3 ?k4 ?k5 ?k6 ?k7 ?k8 ?k9 ?_; (case k1 => k_asm); (case k2 => k_asm); (case k3 => k_asm); (case k4 => k_asm); (case k5 => k_asm); (case k6 => first | exact rfl | assumption); (case k7 => ktr_room); (case k8 => ktr_units); (case k9 => trivial)); intro t' h' tk' F' N'
    exact LCg.CompEnd.intro F' N' _ (fun _ hp => hp) off trivial ⟨rfl, _, rfl⟩
  · have hw : (((x.cps.toList.map g).map (·.length)).sum + (x.cps.toList.map g).length ≤ 1048576) := by
      have h1 := sum_len_le g 4 gl x.cps.toList
      have h2 := len_co x
      rw [List.length_map]
      omega
    k_steps
    exact cb_retS hret (by rw [join_nil_flat, List.flatMap_map]) (by assumption) (cb_drop (by assumption) (fun p hp => List.Mem.tail _ (List.Mem.tail _ hp)))
end
end Mine
end
/-! ## C6 -/
section
open PySem PySem.W PyProof PyProof.Rows
namespace Mine
theorem st_len {x y : Str} {i : Nat} (hlen : x.length ≤ 1000) (h : (Txt.split x (Str.ofString " "))[i]? = some y) : y.length ≤ 1000 := Nat.le_trans (part_short (List.mem_of_getElem? h)) hlen
theorem split_count {x y : Str} (hy : 1 ≤ y.length) (hlen : x.length ≤ 1000) : (Txt.split x y).length ≤ 1001 := by
  have := split_weight x y hy
  omega
theorem sv1 {b k0 : Int} {Q : Bool} (h : b = k0) : (b == k0) = (decide (b = k0) || Q) := by simp [h]
theorem sv2 {b k0 k n : Int} (h : ¬ b = k0) (hk : k = n - 1) : (b == k0 - 1) = (decide (b = k0) || (decide (k + 1 = n) && decide (b = k0 - 1))) := by
  have : k + 1 = n := by omega
  rw [decide_eq_false h, decide_eq_true this]
  simp
  rfl
theorem sv3 {b k0 k n : Int} (h : ¬ b = k0) (hk : ¬ k = n - 1) : (k == n - 1) = (decide (b = k0) || (decide (k + 1 = n) && decide (b = k0 - 1))) := by
  have : ¬ k + 1 = n := by omega
  rw [decide_eq_false h, decide_eq_false this]
  simpa using hk
section
local macro_rules | `(tactic| walk_at "eval ListComp") => `(tactic| (k_here; k_dflt (refine LCg.ListComp_U (F₀ := by k_asm) (by with_unfolding_all rfl) (by decide) (by rfl) (by decide) (by rfl) ?_)))
local macro_rules | `(tactic| walk_at "CompSrc") => `(tactic| (k_here; k_dflt (refine LCg.CompSrc.ledger (by rfl) (by k_asm) (by k_asm) (by k_memK) (by (rw [List.size_toArray, StrsAre.length (by assumption), sizeLine_eq]; exact Nat.le_trans (split_count (by decide) (by assumption)) (by decide))) ?_); intro g'; refine strs_rest (fun r => (r.length : Int)) (by assumption) (fun c t I oI C oC D m₂ ys h tk E' hc hC hx' F' N' off ne => by (have hcl := Nat.le_trans (part_short hc) (show _ ≤ 1000 by assumption)); (have hcl2 : c.length ≤ 16777216 := by omega); k_steps; exact LCg.CompEnd.intro (by assumption) (by assumption) _ (fun _ hp => hp) off (Or.inr ⟨_, by k_memK, rfl, _, rfl⟩) ⟨rfl, _, rfl⟩) (fun ys hys => ?_)))
local macro_rules | `(tactic| walk_at "call builtin:str.split") => `(tactic| (k_here; (with_reducible show wpAny _ _ (call (Value.builtin "str.split") [Value.str _ _, Value.str _ _]) _ _ _); (refine KSpl.split1 (by k_asm) (by k_asm) (by decide) ?_ (by (rw [sizeLine_eq]; omega))); intro D' l' h' k' e' a' F' N' l1; rw [e'] at a'))
local macro_rules | `(tactic| walk_at "call builtin:len") => `(tactic| (k_here; (with_reducible show wpAny _ _ (call (Value.builtin "len") [Value.ref _]) _ _ _); k_dflt (refine' kst_len ?k1 ?k2 ?k3 ?k4 ?_; (case k1 => k_asm); (case k2 => k_memK); (case k3 => exact StrsAre.length (by assumption)); (case k4 => omega)); k_whole))
local macro_rules | `(tactic| walk_at "call builtin:len") => `(tactic| (k_here; (with_reducible show wpAny _ _ (call (Value.builtin "len") [Value.ref _]) _ _ _); k_dflt (refine' kst_len ?k1 ?k2 ?k3 ?k4 ?_; (case k1 => k_asm); (case k2 => k_memK); (case k3 => exact IntsAre.length (by assumption)); (case k4 => (rw [List.length_map]; omega))); k_whole))
local macro_rules | `(tactic| walk_at "subscriptTail Name Name ref int") => `(tactic| (k_here; k_dflt (refine' str_item ?k1 ?k2 ?k3 ?k4 ?k5 ?k6 ?_ ?k7; (case k1 => k_asm); (case k2 => k_memK); (case k3 => assumption); (case k4 => omega); (case k5 => omega); (case k6 => omega); (case k7 => with_unfolding_all rfl)); k_whole; intro sI tI hI; (have hIl := st_len (by assumption) hI)))
local macro_rules | `(tactic| walk_at "subscriptTail Name Name ref int") => `(tactic| (k_here; k_dflt (refine' list_item ?k1 ?k2 ?k3 ?k4 ?k5 ?k6 ?_ ?k7; (case k1 => k_asm); (case k2 => k_memK); (case k3 => assumption); (case k4 => omega); (case k5 => (rw [List.length_map]; omega)); (case k6 => (rw [List.length_map]; omega)); (case k7 => with_unfolding_all rfl)); k_whole; intro kI tI hI))
local macro_rules | `(tactic| walk_at "ite") => `(tactic| (refine ite_pos (by with_reducible assumption) ?_))
local macro_rules | `(tactic| walk_at "subscriptTail Name Constant ref int") => `(tactic| (k_here; k_dflt (refine' list_item ?k1 ?k2 ?k3 ?k4 ?k5 ?k6 ?_ ?k7; (case k1 => k_asm); (case k2 => k_memK); (case k3 => assumption); (case k4 => decide); (case k5 => (rw [List.length_cons]; omega)); (case k6 => (rw [List.length_cons]; omega)); (case k7 => with_unfolding_all rfl)); k_whole; intro kI tI hI; (have hI0 := Option.some.inj hI); subst hI0))
local macro_rules | `(tactic| walk_at "subscriptTail Name Slice ref ref") => `(tactic| (k_here; k_dflt (refine' kmk_slice_ints ?F ?N ?l ?p ?q ?i ?m ?c ?_ ?s ?t ?z; (case F => k_asm); (case N => k_asm); (case l => exact News.isList (by k_asm) (by k_memK)); (case p => exact IsPart.int _ _); (case q => exact IsPart.none); (case i => assumption); (case m => exact kmk_from (by assumption) (by assumption)); (case c => exact List.length_drop ..); (case s => with_unfolding_all rfl); (case t => kmk_pure); (case z => exact kmk_sz (by assumption) (by (rw [sizeLine_eq]; omega)))); k_whole; intro D' ws' h' F' N' l1 hI' hC' hL'; (try dsimp only)))
set_option maxRecDepth 100000 in
set_option maxHeartbeats 8000000 in
theorem seven_con (w : World) (mean : ExcName → Option Value) (mg mb : Str → Option Value) (x : Str) (tx : Tok) (hlen : x.length ≤ 1000) :
   Con 20 w mean mg mb 114 [.str x tx] (fun _ => True) (fun _ => .bool (sevenF x)) := by
  unfold Con
  k_with_none
  w_top off
  k_fill
  intro news dp un gd cn cs a ccd cl outer A₀ base h₀ L m s Q E B F X N T hk hd hu hpre hret
  have hlen2 : x.length ≤ 16777216 := by omega
  have hsp' : (Txt.split x (Str.ofString " ")).length ≤ 1001 := split_count (by decide) hlen
  refine wpAny_call ?_
  k_dflt (refine' code_defC ?k1 ?k2 ?k3 ?k4 ?k5 ?kA ?kF ?kK ?k6 ?k7 ?k8 ?k9 ?kB ?kD ?_ ?c2 ?c3 ?c4; (case kA => exact rfl); (case kF => exact rfl); (case kK => assumption); (case k1 => k_asm); (case k2 => k_asm); (case k3 => k_asm); (case k4 => k_asm); (case k5 => k_asm); (case k6 => k_is); (case k7 => k_is); (case k8 => ktr_room); (case k9 => first | exact BindsTo.of_eq rfl | exact binds_K (by k_in) rfl (by k_is) rfl rfl rfl | fail "k_enter: no rule for these arguments"); (case kB => exact rfl); (case kD => decide +kernel); (case c2 => exact rfl); (case c3 => exact rfl); (case c4 => exact rfl); k_whole; intro g' L' h' tk' cells' FG' F' N' Y' B' X' T' l1; (try k_lt l1); k_cells Y'; (try simp only [List.cons_append, List.nil_append] at N'); (try dsimp only); (try k_lift B'); (try k_fold))
  rename_i oc hoc
  repeat' ((fail_if_success (with_reducible show wpAny _ _ (pyIter (Value.ref _)) _ _ _)); first | (k_unfold; (try dsimp only)) | walk1 | (dsimp only; walk1))
  rename_i D ls _ _ hls hSA hlt hh1 _ _ _ _ _ _ _ hR hF hN _
  (with_unfolding_all refine' kst_range (σ := Obj) (fun c => (D, W.listOf (strValues ls).toArray 0) :: (L' + 1, c) :: news) (fun _ => []) (fun c => ∃ v, c.data = .cell v) [Str.ofString "odd", Str.ofString "behind", Str.ofString "ends"] (fun pre _ => sevenPre x pre.length) oc (by rfl) hR ?hs ?hn hF hN ⟨_, hoc⟩ (fun _ h => nomatch h) (seven_start x) ?_ ?_)
  case hs => exact small_one (by omega) (by omega) (by omega) (by omega)
  case hn => exact rangeSize_nat _ _
  · intro c pre k t u h tk own hk' hlt' hoff hfc hpc F3 N3
    try k_fold
    k_steps
    rename_i s1 _ hs1 hl1 D1 ls1 _ _ hls1 hSA1 _ _ hlt1 _ ys1 hys1 D2 _ _ F2 N2 o2
    obtain ⟨cv, hcv⟩ := hfc
    have m1 : (L' + 1, c) ∈ ((D, W.listOf (strValues ls).toArray 0) :: (L' + 1, c) :: news ++ own) := List.Mem.tail _ (List.Mem.head _)
    k_dflt (refine' storeX_C F2 N2 ?c (UpdF.tail (Ne.symm (off1_mem o2.2 _ m1)) (UpdF.tail (Nat.ne_of_gt (hlt1 _ m1)) (UpdF.tail (Nat.ne_of_gt (show L' + 1 < D from hlt (L' + 1, oc) (List.Mem.head _))) (UpdF.head ?u)))) hcv ?_ ?a ?b; (case a => rfl); (case b => rfl); (case c => rfl); (case u => exact List.forall_mem_append.mpr ⟨fun p hp => Nat.ne_of_lt (Nat.lt_succ_of_lt (l1 p hp)), fun p hp => hoff p hp _ (List.Mem.tail _ (List.Mem.head _))⟩))
    intro h3 c3 F3 N3 hc3
    have hsc : (Txt.split s1 (Str.ofString "h")).length ≤ 1001 := split_count (by decide) hl1
    dsimp only at N3
    walk1
    k_dflt (refine LCt.Assign_ListComp_T (F₀ := by k_asm) (by rfl) (by with_unfolding_all rfl) (by with_unfolding_all rfl) (by decide) (by rfl) (by decide) (by rfl) (by rfl) (by rfl) ?_)
    repeat ((fail_if_success (with_reducible show LCt.CompSrcT _ _ _ _ _ _ _ _ _ _ _ _ _ _ _)); first | walk1 | (dsimp only; walk1))
    k_dflt (refine LCt.CompSrcT.range (by rfl) (by k_asm) (by k_asm) (by assumption) (small_one (by omega) (by omega) (by (rw [List.length_map]; omega)) (by (rw [List.length_map]; omega))) (rangeSize_nat _ _) (by (rw [List.length_map, sizeLine_eq]; omega)) ?_)
    intro g5
    refine kci_range (oddStep (runsOf s1)) (fun k5 t5 I5 oI5 C5 oC5 D5 m5 ys5 l5 h5 tk5 E5 hlo5 hhi5 hI5 hC5 hx5 F5 N5 off5 ne5 mk5 => ?_) ?_ (odd_grows _)
    · rw [List.length_map] at hhi5
      iterate 12 (first | walk1 | (dsimp only; walk1))
      all_goals first
        | exact LCg.CompEnd.intro (by assumption) (by assumption) _ (fun _ hp => hp) off5 trivial ⟨rfl, odd_no (by assumption) (by assumption)⟩
        | (walk1; exact LCg.CompEnd.intro (by assumption) (by assumption) _ (fun _ hp => hp) off5 trivial ⟨rfl, k5, _, rfl, odd_yes (by assumption) (by assumption)⟩)
    · show ∀ ys, _ → _ → _
      intro ys5 hys5 hyl5
      have h6 : IntsAre ys5 (oddsOf (runsOf s1)) := by
        have e6 : ((((Txt.split s1 (Str.ofString "h")).map fun r : Str => (r.length : Int)).length : Int) - 0).toNat = (runsOf s1).length := by
          unfold runsOf
          omega
        rw [e6] at hys5
        exact hys5
      have h7 : IntsAre ys1 (runsOf s1) := hys1
      have hrl : (runsOf s1).length ≤ 1001 := by
        unfold runsOf
        rw [List.length_map]
        exact hsc
      clear hys5 hys1 hyl5
      generalize hrs : runsOf s1 = rs at h6 h7 hrl
      generalize hod : oddsOf rs = od at h6
      rcases od with _ | ⟨k0, r0⟩
      · have hk'' : k.toNat = pre.length := by omega
        repeat' ((fail_if_success (with_reducible show InvEndN _ _ _ _ _ _ _)); first | (k_unfold; (try dsimp only)) | walk1 | (dsimp only; walk1))
        · exact cb_retB hret (seven_false hpc (hk'' ▸ hs1) (hrs.symm ▸ hod) (hrs.symm ▸ (by omega))).symm (by assumption) (cb_drop (by assumption) (fun p hp => by simp [hp]))
        · refine kst_end c3 (by assumption) (by assumption) ?_ ?_ rfl ⟨_, hc3⟩ (fun _ h => nomatch h) ?_ ?_
          · intro p hp
            simp only [List.mem_cons, List.mem_append] at hp ⊢
            rcases hp with h | h | h
            · simp [h]
            · simp [h]
            · simp [h]
          · intro p hp
            simp [hp]
          · intro z h1 h2 h3
            have ho : z ≠ Str.ofString "odd" := by
              intro e
              rw [e] at h3
              revert h3
              decide
            exact (if_neg ho).trans ((if_neg h1).trans (if_neg (by rw [h3]; exact Bool.false_ne_true)))
          · rw [List.length_append]
            exact seven_next hpc (hk'' ▸ hs1) (hrs.symm ▸ hod) (hrs.symm ▸ (by omega))
      · have hk0 := odds_range hod
        have hk1 : 0 ≤ k0 + 1 := by omega
        have hodl : r0.length ≤ 1001 := by
          have q := oddsOf_len rs
          rw [hod, List.length_cons] at q
          omega
        have hk'' : k.toNat = pre.length := by omega
        have hso : sevenF x = (decide (behindOf rs k0 = k0) || (decide (k + 1 = ((Txt.split x (Str.ofString " ")).length : Int)) && decide (behindOf rs k0 = k0 - 1))) := by
          have q := seven_odd hpc (hk'' ▸ hs1) (hrs.symm ▸ hod)
          rw [hrs] at q
          rw [q]
          have e1 : decide (pre.length + 1 = (stretchesOf x).length) = decide (k + 1 = ((Txt.split x (Str.ofString " ")).length : Int)) := by
            unfold stretchesOf
            rw [Bool.eq_iff_iff]
            simp only [decide_eq_true_eq]
            omega
          rw [e1]
        have hcne : (!decide (k0 :: r0 = ([] : List Int))) = true := by simp
        repeat' (first | (k_unfold; (try dsimp only)) | walk1 | (dsimp only; walk1))
        all_goals refine cb_retB hret ?_ (by assumption) (cb_drop (by assumption) (fun p hp => by simp [hp]))
        all_goals rw [hso]
        all_goals first
          | exact sv1 (by assumption)
          | exact sv2 (by assumption) (by assumption)
          | exact sv3 (by assumption) (by assumption)
  · intro c u h tk hfc hpc F9 N9
    try k_fold
    k_steps
    exact cb_retB hret (seven_end hpc (by rw [rangeKs_length]; unfold stretchesOf; omega)).symm (by assumption) (cb_drop (by assumption) (fun p hp => by simp [hp]))
end
end Mine
end
/-! ## Loop0201 -/
section
open PySem PySem.W PyProof PyProof.Rows
namespace Mine
section
variable {prog : Program} {w : World} {A : Around} {E : Value → Shared → Prop} {s : Shared} {env : Env} {h₀ : Heap} {x : Str} {body : List Stmt} {Q : Flow → Shared → Prop}
/-- a loop over a made list of texts that stays outside the ledger; nothing but the loop's own name changes -/
theorem strs_loop {l : Addr} {vs : List Value} {ss : List Str} {m₀ : Str → Option Value} {news : List (Addr × Obj)} (P : Nat → Prop)
    (hh : A.handled = none) (hl : s.heap.IsList l vs.toArray) (hi : StrsAre vs ss) (F : Fr h₀ env.locals s.heap m₀) (N : News h₀ env.locals s.heap news)
    (hL : l ≠ env.locals) (hd : ∀ p ∈ news, p.1 ≠ l) (hj : P 0)
    (turn : ∀ i y t h tk own, ss[i]? = some y → P i → Fr h₀ env.locals h (fun z => if z = x then some (.str y t) else m₀ z) → News h₀ env.locals h (news ++ own) →
      wpAny (model prog w) A (execs body env) (InvPostN h₀ env.locals (fun m' nx => nx = news ∧ (∀ z, z ≠ x → m' z = m₀ z) ∧ P (i + 1)) own (news.map (·.1)) { s with heap := h, toks := tk } Q) E { s with heap := h, toks := tk })
    (done : ∀ (u : Str → Option Value) h tk, P ss.length → Fr h₀ env.locals h (fun z => if z = x then u z else m₀ z) → News h₀ env.locals h news → Q .next { s with heap := h, toks := tk }) :
    wpAny (model prog w) A (pyIter (.ref l)) (fun it s₂ => LoopAtV prog w A h₀ env x body Q E it s₂) E s := by
  obtain ⟨o, ho, _⟩ := id hl
  have hne : l ≠ s.heap.objs.size := Nat.ne_of_lt (Heap.lt_size ho)
  refine wpAny_pyIter_list hl ?_
  have W := Walks.list (prog := prog) (w := w) hh s.heap.objs.size l hne vs.toArray
  have eqm : ∀ {m₁ : Str → Option Value}, (∀ z, z ≠ x → m₁ z = m₀ z) → m₁ = (fun z => if z = x then m₁ z else m₀ z) := fun h => funext fun z => by
    by_cases hz : z = x
    · rw [if_pos hz]
    · rw [if_neg hz, h z hz]
  refine loop_invN (m₀ := m₀) (news := news) (fun i m nx => nx = news ∧ (∀ z, z ≠ x → m z = m₀ z) ∧ P i) W ?_ ?_ ?_ ?_ ⟨⟨_, Heap.get?_push_size _ rfl, rfl, rfl⟩, hl.at fun o e => Heap.get?_push_of_some _ e⟩ (F.push _) (fun p hp => ⟨Heap.get?_push_of_some _ (N p hp).1, (N p hp).2⟩) ⟨rfl, fun _ _ => rfl, hj⟩ ?_ ?_
  · intro hm
    rcases List.mem_cons.mp hm with e | hm
    · exact absurd F.ns.lt (e ▸ Nat.lt_irrefl _)
    · exact hL (List.mem_singleton.mp hm).symm
  · intro b hb
    rw [List.mem_singleton.mp hb]
    exact next_is_new F
  · intro p hp hI
    exact absurd (Heap.lt_size (N p hp).1) ((List.mem_singleton.mp hI) ▸ Nat.lt_irrefl _)
  · intro p hp hI
    rcases List.mem_cons.mp hI with e | e
    · exact absurd (Heap.lt_size (N p hp).1) (e ▸ Nat.lt_irrefl _)
    · exact hd p hp (List.mem_singleton.mp e)
  · rintro i v m₁ nx h tk own hlt hP _ hoff ⟨rfl, hm, hp⟩ F₁ N₁
    have hlt' : i < ss.length := by
      have := hi.length
      simp only [List.size_toArray] at hlt
      omega
    obtain ⟨t, hx⟩ := hi.get i ss[i] (by simp [hlt'])
    have hv : v = .str ss[i] t := by
      have hP' : vs[i]? = some v := by simpa using hP
      rw [hx] at hP'
      exact (Option.some.inj hP').symm
    subst hv
    have em : (fun z => if z = x then some (Value.str ss[i] t) else m₁ z) = (fun z => if z = x then some (Value.str ss[i] t) else m₀ z) := funext fun z => by
      by_cases hz : z = x
      · rw [if_pos hz, if_pos hz]
      · rw [if_neg hz, if_neg hz, hm z hz]
    rw [em] at F₁
    exact turn i ss[i] t h tk own (by simp [hlt']) hp F₁ N₁
  · rintro m₁ nx h tk ⟨rfl, hm, hp⟩ F₁ N₁
    rw [eqm hm] at F₁
    have e : vs.toArray.size = ss.length := by rw [List.size_toArray, hi.length]
    rw [e] at hp
    exact done m₁ h tk hp F₁ N₁
theorem strs_from {vs : List Value} {ss : List Str} (hi : StrsAre vs ss) {q : Int} (h : 0 ≤ q) : StrsAre (slicePick vs.toArray (some q) none none).toList (ss.drop q.toNat) := by
  have e : sliceBounds (some q) none none vs.toArray.size = (((min q.toNat vs.toArray.size : Nat) : Int), ((vs.toArray.size : Nat) : Int), 1) := by
    simp only [sliceBounds, Option.getD_none, show (1 : Int) > 0 by decide, if_true, if_neg (show ¬ (q < 0) by omega)]
    congr 1
    omega
  rw [kmk_pick_nat _ e]
  show StrsAre ((vs.drop (min q.toNat vs.toArray.size)).take (vs.toArray.size - min q.toNat vs.toArray.size)) _
  rw [List.size_toArray, kmk_drop_min, List.take_of_length_le (by rw [List.length_drop]; omega)]
  exact StrsAre.drop' hi _
/-- what lies behind a place of a made list of texts -/
theorem slice_strs {value slice : PySem.Expr} {l : Addr} {vs : List Value} {ss : List Str} {q : Int} {tq : Tok} {m : Str → Option Value} {news : List (Addr × Obj)} {L : Addr} {n : Nat} {Q : Value → Shared → Prop}
    (F : Fr h₀ L s.heap m) (N : News h₀ L s.heap news) (hm : (l, W.listOf vs.toArray n) ∈ news) (hi : StrsAre vs ss) (h0 : 0 ≤ q)
    (hs : subscripted slice false (.ref l) (.ref s.heap.objs.size) = operate [.ref s.heap.objs.size, .ref l] (getItem (.ref l) (.ref s.heap.objs.size))) (ht : ∀ r, letTemporaryGo value (.ref l) r = pure ()) (hz : ss.length ≤ sizeLine)
    (h : ∀ D ws h', Fr h₀ L h' m → News h₀ L h' ((D, W.listOf (List.toArray ws) 0) :: news) → (∀ p ∈ news, p.1 < D) → StrsAre ws (ss.drop q.toNat) → Q (.ref D) { s with heap := h' }) :
    wpAny (model prog w) A (subscriptTail value slice (.ref l) (.ref s.heap.objs.size)) Q E { s with heap := s.heap.push { cls := .type "slice", data := .fields #[.int q tq, .none, .none] } } := by
  refine kmk_slice F N ⟨_, (N _ hm).1, rfl, n, rfl⟩ (IsPart.int _ _) IsPart.none (fun D h' F' N' l1 => h D (slicePick vs.toArray (some q) none none).toList h' F' ?_ l1 (strs_from hi h0)) hs ht (by rw [List.size_toArray, hi.length]; exact hz)
  rw [Array.toArray_toList]
  exact N'
end
def restOf (x : Str) : Str := Txt.join (Str.ofString "h") ((Txt.split x (Str.ofString "h")).drop 1)
def anyOdd (l : List Str) : Bool := l.any fun r => decide (r.length % 2 = 1)
def headOf (x : Str) : Str := (Txt.split x (Str.ofString "h")).headD (Str.ofString "")
def unctrlSame (x : Str) : Bool := decide ((Txt.split x (Str.ofString "h")).length = 1) || anyOdd (Txt.split (headOf x) (Str.ofString " ")) || (decide ((restOf x).length % 2 = 1) && (restOf x == Txt.mul (Str.ofString "q") (restOf x).length))
def evenTill (l : List Str) (i : Nat) : Prop := ∀ r ∈ l.take i, ¬ r.length % 2 = 1
theorem even_start (l : List Str) : evenTill l 0 := fun _ h => nomatch h
theorem even_next {l : List Str} {i : Nat} {y : Str} (h : evenTill l i) (hy : l[i]? = some y) (he : ¬ (y.length : Int).fmod 2 = 1) : evenTill l (i + 1) := by
  intro r hr
  rw [List.take_add_one, hy] at hr
  rcases List.mem_append.mp hr with q | q
  · exact h r q
  · have e : r = y := by simpa using q
    subst e
    rw [Int.fmod_eq_emod_of_nonneg _ (by decide)] at he
    omega
theorem head_of {x s : Str} (h : (Txt.split x (Str.ofString "h"))[Int.toNat 0]? = some s) : headOf x = s := by
  unfold headOf
  generalize Txt.split x (Str.ofString "h") = l at h
  cases l with
  | nil => cases h
  | cons a b => exact Option.some.inj h
theorem same_one {x : Str} (h : ((Txt.split x (Str.ofString "h")).length : Int) = 1) : unctrlSame x = true := by
  unfold unctrlSame
  have : (Txt.split x (Str.ofString "h")).length = 1 := by omega
  rw [decide_eq_true this]
  rfl
theorem same_odd {x s y : Str} {i : Nat} (h : (Txt.split x (Str.ofString "h"))[Int.toNat 0]? = some s) (hy : (Txt.split s (Str.ofString " "))[i]? = some y) (ho : (y.length : Int).fmod 2 = 1) : unctrlSame x = true := by
  unfold unctrlSame
  rw [head_of h]
  have : anyOdd (Txt.split s (Str.ofString " ")) = true := by
    unfold anyOdd
    rw [List.any_eq_true]
    rw [Int.fmod_eq_emod_of_nonneg _ (by decide)] at ho
    exact ⟨y, List.mem_of_getElem? hy, by simp; omega⟩
  rw [this, Bool.or_true]
  rfl
theorem same_rest {x s : Str} (h1 : ((Txt.split x (Str.ofString "h")).length : Int) ≠ 1) (h : (Txt.split x (Str.ofString "h"))[Int.toNat 0]? = some s) (he : evenTill (Txt.split s (Str.ofString " ")) (Txt.split s (Str.ofString " ")).length) :
    unctrlSame x = (decide (((restOf x).length : Int).fmod 2 = 1) && (restOf x == Txt.mul (Str.ofString "q") (restOf x).length)) := by
  unfold unctrlSame
  rw [head_of h]
  have e1 : ¬ (Txt.split x (Str.ofString "h")).length = 1 := by omega
  have e2 : anyOdd (Txt.split s (Str.ofString " ")) = false := by
    unfold evenTill at he
    rw [List.take_length] at he
    unfold anyOdd
    rw [List.any_eq_false]
    intro r hr
    have := he r hr
    simpa using this
  rw [decide_eq_false e1, e2]
  have e3 : decide ((restOf x).length % 2 = 1) = decide (((restOf x).length : Int).fmod 2 = 1) := by
    rw [Int.fmod_eq_emod_of_nonneg _ (by decide), Bool.eq_iff_iff]
    simp only [decide_eq_true_eq]
    omega
  rw [e3]
  rfl
theorem same_both {x s : Str} (h1 : ((Txt.split x (Str.ofString "h")).length : Int) ≠ 1) (h : (Txt.split x (Str.ofString "h"))[Int.toNat 0]? = some s) (he : evenTill (Txt.split s (Str.ofString " ")) (Txt.split s (Str.ofString " ")).length)
    (ho : ((Txt.join (Str.ofString "h") ((Txt.split x (Str.ofString "h")).drop (Int.toNat 1))).length : Int).fmod 2 = 1) :
    unctrlSame x = (Txt.join (Str.ofString "h") ((Txt.split x (Str.ofString "h")).drop (Int.toNat 1)) == Txt.mul (Str.ofString "q") (Txt.join (Str.ofString "h") ((Txt.split x (Str.ofString "h")).drop (Int.toNat 1))).length) := by
  rw [same_rest h1 h he]
  have e : ((restOf x).length : Int).fmod 2 = 1 := ho
  rw [decide_eq_true e]
  rfl
theorem same_not {x s : Str} (h1 : ((Txt.split x (Str.ofString "h")).length : Int) ≠ 1) (h : (Txt.split x (Str.ofString "h"))[Int.toNat 0]? = some s) (he : evenTill (Txt.split s (Str.ofString " ")) (Txt.split s (Str.ofString " ")).length)
    (ho : ¬ ((Txt.join (Str.ofString "h") ((Txt.split x (Str.ofString "h")).drop (Int.toNat 1))).length : Int).fmod 2 = 1) :
    unctrlSame x = (((Txt.join (Str.ofString "h") ((Txt.split x (Str.ofString "h")).drop (Int.toNat 1))).length : Int).fmod 2 == 1) := by
  rw [same_rest h1 h he]
  have e : ¬ ((restOf x).length : Int).fmod 2 = 1 := ho
  rw [decide_eq_false e]
  exact (beq_eq_false_iff_ne.mpr ho).symm
end Mine
end
/-! ## PureL0201 -/
section
open PySem PySem.W PyProof PyProof.Rows
namespace Mine
def joinL (c : Nat) : List (List Nat) → List Nat
  | [] => []
  | [p] => p
  | p :: q :: r => p ++ c :: joinL c (q :: r)
def splitL (c : Nat) : List Nat → List (List Nat)
  | [] => [[]]
  | a :: l => if a = c then [] :: splitL c l else match splitL c l with
    | [] => [[a]]
    | p :: ps => (a :: p) :: ps
theorem splitL_ne (c : Nat) (l : List Nat) : splitL c l ≠ [] := by
  cases l with
  | nil => simp [splitL]
  | cons a l =>
    rw [splitL]
    split
    · simp
    · split <;> simp
theorem splitL_free {c : Nat} : ∀ {p : List Nat}, c ∉ p → splitL c p = [p]
  | [], _ => rfl
  | a :: p, h => by
    rw [List.mem_cons, not_or] at h
    rw [splitL, if_neg (Ne.symm h.1), splitL_free h.2]
theorem splitL_cut {c : Nat} (l : List Nat) : ∀ {p : List Nat}, c ∉ p → splitL c (p ++ c :: l) = p :: splitL c l
  | [], _ => by rw [List.nil_append, splitL, if_pos rfl]
  | a :: p, h => by
    rw [List.mem_cons, not_or] at h
    rw [List.cons_append, splitL, if_neg (Ne.symm h.1), splitL_cut l h.2]
theorem splitL_joinL (c : Nat) : ∀ ps : List (List Nat), ps ≠ [] → (∀ p ∈ ps, c ∉ p) → splitL c (joinL c ps) = ps
  | [], h, _ => absurd rfl h
  | [p], _, hf => splitL_free (hf p List.mem_cons_self)
  | p :: q :: r, _, hf => by
    rw [joinL, splitL_cut _ (hf p List.mem_cons_self), splitL_joinL c (q :: r) (by simp) (fun x hx => hf x (List.mem_cons_of_mem _ hx))]
theorem join_co (c : Nat) : ∀ ps : List Str, (Str.join ⟨#[c]⟩ ps).cps.toList = joinL c (ps.map (·.cps.toList))
  | [] => rfl
  | [p] => rfl
  | p :: q :: r => by
    rw [Str.join, co_append, co_append, join_co c (q :: r)]
    · simp only [List.map_cons, joinL, List.append_assoc]
      rfl
    · simp
theorem split_co (x : Str) (c : Nat) : (Txt.split x ⟨#[c]⟩).map (·.cps.toList) = splitL c x.cps.toList := by
  have h := StrLaws.join_split x ⟨#[c]⟩
  have e := join_co c (Txt.split x ⟨#[c]⟩)
  rw [h] at e
  rw [e, splitL_joinL]
  · intro q
    have := split_pos x ⟨#[c]⟩
    rw [List.map_eq_nil_iff] at q
    rw [q] at this
    simp at this
  · intro p hp
    obtain ⟨y, hy, rfl⟩ := List.mem_map.mp hp
    exact StrLaws.split_free x c y hy
theorem sum_drop_le (l : List Nat) (n : Nat) : (l.drop n).sum ≤ l.sum := by
  conv => rhs; rw [← List.take_append_drop n l, List.sum_append_nat]
  omega
theorem rest_weight {x : Str} (n : Nat) (hlen : x.length ≤ 1000) : (((Txt.split x (Str.ofString "h")).drop n).map (·.length)).sum + ((Txt.split x (Str.ofString "h")).drop n).length ≤ 1048576 := by
  have h1 := split_weight x (Str.ofString "h") (by decide)
  have h2 := sum_drop_le ((Txt.split x (Str.ofString "h")).map (·.length)) n
  rw [← List.map_drop] at h2
  rw [List.length_drop]
  omega
theorem rest_len {x : Str} (hlen : x.length ≤ 1000) : (restOf x).length ≤ 1001 := by
  unfold restOf Txt.join
  rw [StrLaws.glued_eq_join]
  refine Nat.le_trans (StrLaws.join_length_le _ _) ?_
  have h1 := split_weight x (Str.ofString "h") (by decide)
  have h2 := sum_drop_le ((Txt.split x (Str.ofString "h")).map (·.length)) 1
  rw [← List.map_drop] at h2
  rw [List.length_drop, show (Str.ofString "h" : Str).length = 1 from by decide]
  omega
theorem rest_co (x : Str) : (restOf x).cps.toList = joinL 104 ((splitL 104 x.cps.toList).drop 1) := by
  unfold restOf Txt.join
  rw [StrLaws.glued_eq_join, show (Str.ofString "h" : Str) = ⟨#[104]⟩ from by decide, join_co, ← split_co, List.map_drop]
end Mine
end
/-! ## C7 -/
section
open PySem PySem.W PyProof PyProof.Rows
namespace Mine
section
local macro_rules | `(tactic| walk_at "call builtin:str.split") => `(tactic| (k_here; (with_reducible show wpAny _ _ (call (Value.builtin "str.split") [Value.str _ _, Value.str _ _]) _ _ _); (refine KSpl.split1 (by k_asm) (by k_asm) (by decide) ?_ (by (rw [sizeLine_eq]; omega))); intro D' l' h' k' e' a' F' N' l1; rw [e'] at a'))
local macro_rules | `(tactic| walk_at "call builtin:len") => `(tactic| (k_here; (with_reducible show wpAny _ _ (call (Value.builtin "len") [Value.ref _]) _ _ _); k_dflt (refine' kst_len ?k1 ?k2 ?k3 ?k4 ?_; (case k1 => k_asm); (case k2 => k_memK); (case k3 => exact StrsAre.length (by assumption)); (case k4 => omega)); k_whole))
local macro_rules | `(tactic| walk_at "subscriptTail Name Constant ref int") => `(tactic| (k_here; k_dflt (refine' str_item ?k1 ?k2 ?k3 ?k4 ?k5 ?k6 ?_ ?k7; (case k1 => k_asm); (case k2 => k_memK); (case k3 => assumption); (case k4 => decide); (case k5 => assumption); (case k6 => omega); (case k7 => with_unfolding_all rfl)); k_whole; intro sI tI hI; (have hIl := Nat.le_trans (part_short (List.mem_of_getElem? hI)) (show _ ≤ 1000 by assumption)); (have hIl2 := Nat.le_trans hIl (show 1000 ≤ 16777216 by decide))))
local macro_rules | `(tactic| walk_at "subscriptTail Name Slice ref ref") => `(tactic| (k_here; k_dflt (refine' slice_strs ?F ?N ?l ?i ?o ?s ?t ?z ?_; (case F => k_asm); (case N => k_asm); (case l => k_memK); (case i => assumption); (case o => decide); (case s => with_unfolding_all rfl); (case t => kmk_pure); (case z => (rw [sizeLine_eq]; omega))); k_whole; intro D' ws' h' F' N' l1 hI'; (try dsimp only)))
local macro_rules | `(tactic| walk_at "call builtin:str.join") => `(tactic| ((with_reducible show wpAny _ _ (call (Value.builtin "str.join") [Value.str _ _, Value.ref _]) _ _ _); (with_reducible rename StrsAre _ _ => hSA); refine join_listW (News.isList (by k_asm) (by k_memK)) hSA (by decide) (by assumption) ?_; intro _ _))
local macro_rules | `(tactic| walk_at "binaryOp Mult str int") => `(tactic| (k_here; (with_reducible show wpAny _ _ (binaryOp Operator.Mult (Value.str _ _) (Value.int _ _)) _ _ _); (refine KXi.mul (n := 1) (by decide) (by decide) (by omega) (by omega) ?_); intro _ _ _ _))
set_option maxRecDepth 100000 in
set_option maxHeartbeats 8000000 in
theorem same_con (w : World) (mean : ExcName → Option Value) (mg mb : Str → Option Value) (x : Str) (tx : Tok) (hlen : x.length ≤ 1000) :
   Con 20 w mean mg mb 121 [.str x tx] (fun _ => True) (fun _ => .bool (unctrlSame x)) := by
  unfold Con
  k_with_none
  w_top off
  k_fill
  intro news dp un gd cn cs a ccd cl outer A₀ base h₀ L m s Q E B F X N T hk hd hu hpre hret
  have hlen2 : x.length ≤ 16777216 := by omega
  have hsp' : (Txt.split x (Str.ofString "h")).length ≤ 1001 := split_count (by decide) hlen
  have hsp0 : (0 : Int) < ((Txt.split x (Str.ofString "h")).length : Int) := by
    have := split_pos x (Str.ofString "h")
    omega
  refine wpAny_call ?_
  k_dflt cell_enter
  repeat' ((fail_if_success (with_reducible show wpAny _ _ (pyIter (Value.ref _)) _ _ _)); first | (k_unfold; (try dsimp only)) | walk1 | (dsimp only; walk1))
  · exact cb_retB hret (same_one (by assumption)).symm (by assumption) (cb_drop (by assumption) (fun p hp => by simp [hp]))
  · rename_i sI tI hI hIl hIl2 D2 l2 h2 k2 e2 a2 F2 N2 l12
    refine strs_loop (evenTill (Txt.split sI (Str.ofString " "))) (by rfl) ⟨_, (N2 _ (List.Mem.head _)).1, rfl, 0, rfl⟩ a2 F2 (fun p hp => N2 p (List.Mem.tail _ hp)) (N2 _ (List.Mem.head _)).2.1 (fun p hp => Nat.ne_of_lt (l12 p hp)) (even_start _) ?_ ?_
    · intro i y t h tk own hy hev F3 N3
      have hyl := st_len hIl hy
      have hyl2 : y.length ≤ 16777216 := by omega
      try k_fold
      repeat' ((fail_if_success (with_reducible show InvEndN _ _ _ _ _ _ _)); first | (k_unfold; (try dsimp only)) | walk1 | (dsimp only; walk1))
      · exact cb_retB hret (same_odd hI hy (by assumption)).symm (by assumption) (cb_drop (by assumption) (fun p hp => by simp [hp]))
      · refine ⟨_, _, _, _, _, rfl, by assumption, by assumption, ?_, ?_, rfl, rfl, fun z hz => if_neg hz, even_next hev hy (by assumption)⟩
        · exact fun p hp => List.mem_append.mpr (.inl hp)
        · exact fun p hp => List.mem_append.mpr (.inr hp)
    · intro u h tk hev F3 N3
      have hw := rest_weight (x := x) (Int.toNat 1) hlen
      have hrl := rest_len hlen
      have hrl1 : (Txt.join (Str.ofString "h") ((Txt.split x (Str.ofString "h")).drop (Int.toNat 1))).length ≤ 1001 := hrl
      have hrl2 : (Txt.join (Str.ofString "h") ((Txt.split x (Str.ofString "h")).drop (Int.toNat 1))).length ≤ 16777216 := Nat.le_trans hrl (by decide)
      try k_fold
      k_steps
      · exact cb_retB hret (same_both (by assumption) hI hev (by assumption)).symm (by assumption) (cb_drop (by assumption) (fun p hp => by simp [hp]))
      · exact cb_retB hret (same_not (by assumption) hI hev (by assumption)).symm (by assumption) (cb_drop (by assumption) (fun p hp => by simp [hp]))
end
end Mine
end
/-! ## C8 -/
section
open PySem PySem.W PyProof PyProof.Rows
namespace Mine
/-- what a call of a def of the text gives back: a new list of ints -/
def ConI (k : Nat) (w : World) (mean : ExcName → Option Value) (mg mb : Str → Option Value) (f : Addr) (vs : List Value) (Pre : Heap → Prop) (ns : List Int) : Prop :=
  ∀ (news : List (Addr × Obj)) (dp un : Nat) (gd : Option (List Code)) (cn : Str) (cs : Scope) (a : Addr) (ccd : Value) (cl : List (Str × Addr)) (outer : List Env) (A₀ : Around) (base h₀ : Heap) (L : Addr) (m : Str → Option Value) (s : Shared) (Q E : Value → Shared → Prop),
    Below A₀ base outer h₀ → Fr h₀ L s.heap m → (hd0201.heap_39 w.params).In h₀ → News h₀ L s.heap news → Top hd0201.view_39 (looseW hd0201.view_39 []) mean mg mb h₀ → cs.kind = .function →
    dp + k < recursionLimit → un + 8 * k < cLine → Pre base →
    (∀ (D : Addr) (us : List Value) (n : Nat) (h' : Heap) (tk' : Nat), Fr h₀ L h' m → News h₀ L h' ((D, W.listOf us.toArray n) :: news) → (∀ p ∈ news, p.1 < D) → IntsAre us ns → Q (.ref D) { s with heap := h', toks := tk' }) →
    wpAny (model PySem.Challenge.rw_il0201_01.row.prog w) (ktrTop dp un gd cn cs L a ccd cl outer) (call (.ref f) vs) Q E s
theorem ConI.use {k : Nat} {w : World} {mean : ExcName → Option Value} {mg mb : Str → Option Value} {f : Addr} {vs : List Value} {Pre : Heap → Prop} {ns : List Int} (C : ConI k w mean mg mb f vs Pre ns)
    {news : List (Addr × Obj)} {dp un : Nat} {gd : Option (List Code)} {cn : Str} {cs : Scope} {a : Addr} {ccd : Value} {cl : List (Str × Addr)} {outer : List Env} {A₀ : Around} {base h₀ : Heap} {L : Addr} {m : Str → Option Value} {s : Shared} {Q E : Value → Shared → Prop}
    (B : Below A₀ base outer h₀) (F : Fr h₀ L s.heap m) (X : (hd0201.heap_39 w.params).In h₀) (N : News h₀ L s.heap news) (T : Top hd0201.view_39 (looseW hd0201.view_39 []) mean mg mb h₀) (hk : cs.kind = .function)
    (hd : dp + k < recursionLimit) (hu : un + 8 * k < cLine) (hp : Pre base)
    (ret : ∀ (D : Addr) (us : List Value) (n : Nat) (h' : Heap) (tk' : Nat), Fr h₀ L h' m → News h₀ L h' ((D, W.listOf us.toArray n) :: news) → (∀ p ∈ news, p.1 < D) → IntsAre us ns → Q (.ref D) { s with heap := h', toks := tk' }) :
    wpAny (model PySem.Challenge.rw_il0201_01.row.prog w) (ktrTop dp un gd cn cs L a ccd cl outer) (call (.ref f) vs) Q E s :=
  C _ _ _ _ _ _ _ _ _ _ _ _ _ _ _ _ _ _ B F X N T hk hd hu hp ret
section
local macro_rules | `(tactic| walk_at "call builtin:list.append") => `(tactic| (k_here; (with_reducible show wpAny _ _ (call (Value.builtin _) [Value.ref _, _]) _ _ _); k_dflt (refine' append_K ?k1 ?k2 ?k3 ?_ ?z; (case k1 => k_asm); (case k2 => k_asm); (case k3 => k_upd); (case z => exact oc_room (by assumption) (by assumption) (by assumption) (by assumption)); k_whole); intro h' F' N'; (try k_sweep)))
local macro_rules | `(tactic| walk_at "exec For Name BinOp cons nil") => `(tactic| (k_here; (rename Fr _ _ _ _ => lF'); (with_unfolding_all refine' For_invVF lF' ?k1 ?k2 ?_; (case k1 => exact rfl); (case k2 => exact rfl); k_whole)))
set_option maxRecDepth 100000 in
set_option maxHeartbeats 8000000 in
theorem octets_con (w : World) (mean : ExcName → Option Value) (mg mb : Str → Option Value) (l : Addr) (vs : List Value) (ns : List Int) (hvs : IntsAre vs ns) (hlen : ns.length ≤ 63) :
   ConI 20 w mean mg mb 95 [.ref l] (fun b₀ => b₀.IsList l vs.toArray) (octsOf ns) := by
  unfold ConI
  k_with_none
  w_top off
  k_fill
  intro news dp un gd cn cs a ccd cl outer A₀ base h₀ L m s Q E B F X N T hk hd hu hpre hret
  have h25 : (List.take 24 ns ++ [ns.sum]).length ≤ 25 := by
    rw [List.length_append, List.length_take, List.length_singleton]
    omega
  have hL : base.IsList l vs.toArray := hpre
  k_with "pyIter ref" => k_state (fun pre (os : List Int) => os = pre.map octI) "octets"
  k_with "state" => first | exact rfl | exact oc_1 (by assumption) (by assumption) | exact oc_2 (by assumption) (by assumption) (by assumption) | exact oc_3 (by assumption) (by assumption) (by assumption)
  refine wpAny_call ?_
  k_dflt cell_enter
  k_steps
  exact hret _ _ _ _ _ (by assumption) (cb_drop (by assumption) (fun p hp => List.Mem.tail _ (List.Mem.tail _ (List.Mem.tail _ hp)))) (by assumption) (kInv ▸ kFacts)
end
end Mine
end
/-! ## C9 -/
section
open PySem PySem.W PyProof PyProof.Rows
namespace Mine
def picI (c : Int) : List Int := (pic c.toNat).map Int.ofNat
theorem pc {c : Int} (h : 0 ≤ c ∧ c < 256) : picI c = if c = 127 then [94, 63] else (if 127 < c then [33] else []) ++ (if c.fmod 128 = 127 then [94, 159] else if c.fmod 128 < 32 then [94, c.fmod 128 + 64] else [c.fmod 128]) := by
  obtain ⟨n, rfl⟩ : ∃ n : Nat, c = n := ⟨c.toNat, by omega⟩
  exact (by decide +kernel : ∀ n : Nat, n < 256 → picI (n : Int) = if (n : Int) = 127 then [94, 63] else (if 127 < (n : Int) then [33] else []) ++ (if (n : Int).fmod 128 = 127 then [94, 159] else if (n : Int).fmod 128 < 32 then [94, (n : Int).fmod 128 + 64] else [(n : Int).fmod 128])) n (by omega)
theorem pcA {c : Int} (h : 0 ≤ c ∧ c < 256) (h1 : c = 127) : picI c = [94, 63] := by rw [pc h, if_pos h1]
theorem pcB {c : Int} (h : 0 ≤ c ∧ c < 256) (h1 : 127 < c) (h2 : c.fmod 128 = 127) : picI c = [33, 94, 159] := by
  rw [pc h, if_neg (by omega), if_pos h1, if_pos h2]
  rfl
theorem pcC {c : Int} (h : 0 ≤ c ∧ c < 256) (h1 : 127 < c) (h2 : ¬ c.fmod 128 = 127) (h3 : c.fmod 128 < 32) : picI c = [33, 94, c.fmod 128 + 64] := by
  rw [pc h, if_neg (by omega), if_pos h1, if_neg h2, if_pos h3]
  rfl
theorem pcD {c : Int} (h : 0 ≤ c ∧ c < 256) (h1 : 127 < c) (h2 : ¬ c.fmod 128 = 127) (h3 : ¬ c.fmod 128 < 32) : picI c = [33, c.fmod 128] := by
  rw [pc h, if_neg (by omega), if_pos h1, if_neg h2, if_neg h3]
  rfl
theorem pcE {c : Int} (h : 0 ≤ c ∧ c < 256) (h0 : ¬ c = 127) (h1 : ¬ 127 < c) (h2 : c.fmod 128 = 127) : picI c = [94, 159] := by
  rw [pc h, if_neg h0, if_neg h1, if_pos h2]
  rfl
theorem pcF {c : Int} (h : 0 ≤ c ∧ c < 256) (h0 : ¬ c = 127) (h1 : ¬ 127 < c) (h2 : ¬ c.fmod 128 = 127) (h3 : c.fmod 128 < 32) : picI c = [94, c.fmod 128 + 64] := by
  rw [pc h, if_neg h0, if_neg h1, if_neg h2, if_pos h3]
  rfl
theorem pcG {c : Int} (h : 0 ≤ c ∧ c < 256) (h0 : ¬ c = 127) (h1 : ¬ 127 < c) (h2 : ¬ c.fmod 128 = 127) (h3 : ¬ c.fmod 128 < 32) : picI c = [c.fmod 128] := by
  rw [pc h, if_neg h0, if_neg h1, if_neg h2, if_neg h3]
  rfl
theorem pk1 {h₀ h : Heap} {L : Addr} {x y : Addr × Obj} {news : List (Addr × Obj)} (N : News h₀ L h (x :: y :: news)) : News h₀ L h (x :: news) := fun p hp => N p (by
  rcases List.mem_cons.mp hp with e | e
  · exact e ▸ List.Mem.head _
  · exact List.Mem.tail _ (List.Mem.tail _ e))
theorem pk2 {h₀ h : Heap} {L : Addr} {x y z : Addr × Obj} {news : List (Addr × Obj)} (N : News h₀ L h (x :: y :: z :: news)) : News h₀ L h (x :: news) := pk1 (pk1 N)
section
set_option maxRecDepth 100000 in
set_option maxHeartbeats 8000000 in
theorem picture_con (w : World) (mean : ExcName → Option Value) (mg mb : Str → Option Value) (c : Int) (tc : Tok) (hc : 0 ≤ c ∧ c < 256) :
   ConI 20 w mean mg mb 102 [.int c tc] (fun _ => True) (picI c) := by
  unfold ConI
  k_with_none
  w_top off
  k_fill
  intro news dp un gd cn cs a ccd cl outer A₀ base h₀ L m s Q E B F X N T hk hd hu hpre hret
  obtain ⟨hc0, hc1⟩ := hc
  refine wpAny_call ?_
  k_dflt cell_enter
  k_steps
  all_goals first
    | (exfalso; omega)
    | skip
  all_goals rename News _ _ _ _ => nX
  all_goals first
    | exact hret _ _ _ _ _ (by assumption) (pk1 nX) (kst_ltOf (And.right (by assumption))) (by rw [pcA ⟨hc0, hc1⟩ (by omega)]; repeat constructor)
    | exact hret _ _ _ _ _ (by assumption) (pk2 nX) (kst_ltOf (And.right (And.right (by assumption)))) (by rw [pcB ⟨hc0, hc1⟩ (by omega) (by omega)]; repeat constructor)
    | exact hret _ _ _ _ _ (by assumption) (pk2 nX) (kst_ltOf (And.right (And.right (by assumption)))) (by rw [pcC ⟨hc0, hc1⟩ (by omega) (by omega) (by omega)]; repeat constructor)
    | exact hret _ _ _ _ _ (by assumption) (pk2 nX) (kst_ltOf (And.right (And.right (by assumption)))) (by rw [pcD ⟨hc0, hc1⟩ (by omega) (by omega) (by omega)]; repeat constructor)
    | exact hret _ _ _ _ _ (by assumption) (pk2 nX) (kst_ltOf (And.right (And.right (by assumption)))) (by rw [pcE ⟨hc0, hc1⟩ (by omega) (by omega) (by omega)]; repeat constructor)
    | exact hret _ _ _ _ _ (by assumption) (pk2 nX) (kst_ltOf (And.right (And.right (by assumption)))) (by rw [pcF ⟨hc0, hc1⟩ (by omega) (by omega) (by omega) (by omega)]; repeat constructor)
    | exact hret _ _ _ _ _ (by assumption) (pk2 nX) (kst_ltOf (And.right (And.right (by assumption)))) (by rw [pcG ⟨hc0, hc1⟩ (by omega) (by omega) (by omega) (by omega)]; repeat constructor)
end
end Mine
end
/-! ## PureP0201 -/
section
open PySem PySem.W PyProof PyProof.Rows
namespace Mine
theorem pic_len (c : Nat) : 1 ≤ (pic c).length ∧ (pic c).length ≤ 3 := by
  unfold pic
  split
  · decide
  · rw [List.length_append]
    have h1 : (if 127 < c then [33] else ([] : List Nat)).length ≤ 1 := by split <;> decide
    have h2 : 1 ≤ (if c % 128 = 127 then [94, 159] else if c % 128 < 32 then [94, c % 128 + 64] else [c % 128]).length ∧ (if c % 128 = 127 then [94, 159] else if c % 128 < 32 then [94, c % 128 + 64] else [c % 128]).length ≤ 2 := by
      split
      · decide
      · split
        · simp
        · simp
    omega
theorem picI_len (c : Int) : 1 ≤ (picI c).length ∧ (picI c).length ≤ 3 := by
  unfold picI
  rw [List.length_map]
  exact pic_len _
theorem pics_len (l : List Int) : (l.flatMap picI).length ≤ 3 * l.length := by
  induction l with
  | nil => simp
  | cons a r ih =>
    rw [List.flatMap_cons, List.length_append, List.length_cons]
    have := (picI_len a).2
    omega
theorem pics_room {ps pre post l : List Int} {n : Int} {us vs : List Value} (hp : ps = pre.flatMap picI) (he : l = pre ++ n :: post) (hl : l.length ≤ 25) (hi : IntsAre vs ps) (hj : IntsAre us (picI n)) : vs.length + us.length ≤ 80 := by
  rw [hi.length, hj.length, hp]
  have h1 := pics_len pre
  have h2 := (picI_len n).2
  rw [he, List.length_append, List.length_cons] at hl
  omega
theorem pics_turn {ps pre : List Int} {n : Int} (hp : ps = pre.flatMap picI) : ps ++ picI n = (pre ++ [n]).flatMap picI := by
  rw [hp, List.flatMap_append, List.flatMap_cons, List.flatMap_nil, List.append_nil]
section
variable {prog : Program} {w : World} {A : Around} {E : Value → Shared → Prop} {s : Shared} {h₀ : Heap} {L : Addr} {m : Str → Option Value} {news news' : List (Addr × Obj)}
/-- a list of ints extended by another made one -/
theorem ext_ints {Q : Value → Shared → Prop} {D b : Addr} {us vs : List Value} {n2 n : Nat} {ps : List Int} {c : Int} (F : Fr h₀ L s.heap m) (N : News h₀ L s.heap news) (hb : (b, W.listOf us.toArray n2) ∈ news)
    (U : Upd D (W.listOf vs.toArray n) (W.listOf (vs ++ us).toArray (n + 1)) news news') (hi : IntsAre vs ps) (hj : IntsAre us (picI c)) (hz : vs.length + us.length ≤ 80)
    (h : ∀ h', Fr h₀ L h' m → News h₀ L h' news' → IntsAre (vs ++ us) (ps ++ picI c) → Q .none { s with heap := h' }) : wpAny (model prog w) A (call (.builtin "list.extend") [.ref D, .ref b]) Q E s := by
  have hz1 : vs.toArray.size + us.toArray.size ≤ sizeLine := by
    rw [List.size_toArray, List.size_toArray, sizeLine_eq]
    omega
  refine kl_extend F N hb (by simp) ?_ U (extend_door hz1) ?_ ?_ (fun h' F' N' => h h' F' N' (hi.append hj))
  · have := (picI_len c).1
    have e := hj.length
    simp
    intro q
    rw [q] at e
    simp at e
    omega
  · have : vs.toArray.toList.length = vs.length := by simp
    rw [this, sizeLine_eq]
    omega
  · exact Nat.le_trans hz1 (Nat.le_succ _)
end
end Mine
end
/-! ## PureX0201 -/
section
open PySem PySem.W PyProof PyProof.Rows
namespace Mine
def lineS (g : Nat → Str) (x : Str) : Str := ⟨(x.cps.toList.flatMap fun c => (g c).cps.toList).toArray⟩
def tellS (ns : List Int) : Str := ⟨(tell (ns.map Int.toNat)).toArray⟩
def markI (c : Int) : Str := if c = 34 then Str.ofString "q" else if c = 162 then Str.ofString "h" else Str.ofString " "
def chrI (c : Int) : Str := ⟨#[c.toNat]⟩
def marksT (ns : List Int) : Str := Txt.join (Str.ofString "") ((octsOf ns).map markI)
def replyT (ns : List Int) : Str := Str.ofString "257 \"" ++ Txt.join (Str.ofString "") ((octsOf ns).map chrI)
def codesI (ns : List Int) : List Int := [50, 53, 55, 32, 34] ++ octsOf ns
theorem marks_w (ns : List Int) : (((octsOf ns).map markI).map (·.length)).sum + ((octsOf ns).map markI).length ≤ 1048576 := by
  have h1 := sum_len_le markI 1 (fun c => by unfold markI; split; decide; split <;> decide) (octsOf ns)
  have h2 := octs_len ns
  rw [List.length_map]
  omega
theorem chrs_w (ns : List Int) : (((octsOf ns).map chrI).map (·.length)).sum + ((octsOf ns).map chrI).length ≤ 1048576 := by
  have h1 := sum_len_le chrI 1 (fun c => Nat.le_refl _) (octsOf ns)
  have h2 := octs_len ns
  rw [List.length_map]
  omega
theorem oc_size {us : List Value} {ns : List Int} (hi : IntsAre us (octsOf ns)) : us.toArray.size ≤ sizeLine := by
  rw [List.size_toArray, hi.length, sizeLine_eq]
  exact Nat.le_trans (octs_len ns) (by decide)
theorem co_size {us : List Value} {ns : List Int} (hi : IntsAre us (codesI ns)) : us.toArray.size ≤ sizeLine := by
  rw [List.size_toArray, hi.length, sizeLine_eq]
  unfold codesI
  have := octs_len ns
  rw [List.length_append]
  simp only [List.length_cons, List.length_nil]
  omega
theorem mk_1 {c : Int} (h : c = 34) : Str.ofString "q" = markI c := by rw [markI, if_pos h]
theorem mk_2 {c : Int} (h : ¬ c = 34) (h2 : c = 162) : Str.ofString "h" = markI c := by rw [markI, if_neg h, if_pos h2]
theorem mk_3 {c : Int} (h : ¬ c = 34) (h2 : ¬ c = 162) : Str.ofString " " = markI c := by rw [markI, if_neg h, if_neg h2]
end Mine
end
/-! ## PureY0201 -/
section
open PySem PySem.W PyProof PyProof.Rows
namespace Mine
def octN (ns : List Int) : List Nat := (octsOf ns).map Int.toNat
theorem octN_small (ns : List Int) : ∀ c ∈ octN ns, c < 256 := by
  intro c hc
  obtain ⟨k, hk, rfl⟩ := List.mem_map.mp hc
  have := octs_range ns k hk
  omega
theorem octN_len (ns : List Int) : (octN ns).length ≤ 25 := by
  unfold octN
  rw [List.length_map]
  exact octs_len ns
theorem reply_co (ns : List Int) : (replyT ns).cps.toList = [50, 53, 55, 32, 34] ++ octN ns := by
  unfold replyT
  rw [co_append]
  have e : Txt.join (Str.ofString "") ((octsOf ns).map chrI) = ⟨((octsOf ns).map Int.toNat).toArray⟩ := chr_join (octsOf ns)
  rw [e]
  rfl
theorem line_co (g : Nat → Str) (x : Str) : (lineS g x).cps.toList = x.cps.toList.flatMap fun c => (g c).cps.toList := by
  unfold lineS
  simp
theorem reply_small (ns : List Int) : ∀ c ∈ (replyT ns).cps.toList, c < 256 := by
  rw [reply_co]
  intro c hc
  rcases List.mem_append.mp hc with h | h
  · exact (by decide : ∀ c ∈ [50, 53, 55, 32, 34], c < 256) c h
  · exact octN_small ns c h
theorem reply_len (ns : List Int) : (replyT ns).length ≤ 1000 := by
  rw [len_co, reply_co, List.length_append]
  have := octN_len ns
  simp only [List.length_cons, List.length_nil]
  omega
theorem starts_of {x : Str} {l : List Nat} (e : x.cps.toList = [50, 53, 55, 32, 34] ++ l) (h : l.length ≤ 1000) : starts x := by
  refine ⟨?_, ?_⟩
  · rw [len_co, e, List.length_append]
    simp only [List.length_cons, List.length_nil]
    omega
  · rw [e]
    rfl
theorem parse_of {x : Str} {l : List Nat} (e : x.cps.toList = [50, 53, 55, 32, 34] ++ l) : parseF x = ⟨(tell l).toArray⟩ := by
  unfold parseF
  rw [e]
  rfl
theorem reply_starts (ns : List Int) : starts (replyT ns) := starts_of (reply_co ns) (Nat.le_trans (octN_len ns) (by decide))
theorem asc_co (ns : List Int) : (lineS asciiF (replyT ns)).cps.toList = [50, 53, 55, 32, 34] ++ (octN ns).map (· % 128) := by
  rw [line_co, reply_co, List.flatMap_append]
  congr 1
  generalize octN ns = l
  induction l with
  | nil => rfl
  | cons a r ih => rw [List.flatMap_cons, ih]; rfl
theorem asc_starts (ns : List Int) : starts (lineS asciiF (replyT ns)) := starts_of (asc_co ns) (by rw [List.length_map]; exact Nat.le_trans (octN_len ns) (by decide))
theorem un_co (ns : List Int) : (lineS unctrlF (replyT ns)).cps.toList = [50, 53, 55, 32, 34] ++ (octN ns).flatMap pic := by
  rw [line_co, reply_co, List.flatMap_append]
  congr 1
theorem flat_len (l : List Nat) : (l.flatMap pic).length ≤ 3 * l.length := by
  induction l with
  | nil => simp
  | cons a r ih =>
    rw [List.flatMap_cons, List.length_append, List.length_cons]
    have := (pic_len a).2
    omega
theorem un_starts (ns : List Int) : starts (lineS unctrlF (replyT ns)) := starts_of (un_co ns) (by
  have h1 := flat_len (octN ns)
  have h2 := octN_len ns
  omega)
theorem lawN (ns : List Int) : parseF (replyT ns) = tellS (octsOf ns) := parse_of (reply_co ns)
theorem lawA (ns : List Int) : parseF (lineS asciiF (replyT ns)) = tellS ((octsOf ns).map fun c => c.fmod 128) := by
  rw [parse_of (asc_co ns)]
  unfold tellS octN
  rw [List.map_map, List.map_map]
  congr 3
  apply List.map_congr_left
  intro c hc
  have := octs_range ns c hc
  show c.toNat % 128 = (c.fmod 128).toNat
  rw [Int.fmod_eq_emod_of_nonneg _ (by decide)]
  omega
theorem lawU (ns : List Int) : parseF (lineS unctrlF (replyT ns)) = tellS ((octsOf ns).flatMap picI) := by
  rw [parse_of (un_co ns)]
  unfold tellS octN
  rw [List.map_flatMap, List.flatMap_map]
  have e : (fun a : Int => pic a.toNat) = fun a : Int => List.map Int.toNat (picI a) := by
    funext c
    unfold picI
    rw [List.map_map]
    exact (List.map_id _).symm
  rw [e]
theorem tell_mem : ∀ (n : Nat) (l : List Nat), l.length ≤ n → (∀ c ∈ tell l, c ∈ l) ∧ (tell l).length ≤ l.length
  | _, [], _ => by simp [tell]
  | 0, c :: r, h => by simp at h
  | n + 1, c :: r, h => by
    rw [List.length_cons] at h
    by_cases hc : c = 34
    · subst hc
      cases r with
      | nil => simp [tell]
      | cons d r' =>
        rw [List.length_cons] at h
        by_cases hd : d = 34
        · subst hd
          have ih := tell_mem n r' (by omega)
          rw [tell_two]
          refine ⟨?_, ?_⟩
          · intro x hx
            rcases List.mem_cons.mp hx with e | e
            · exact e ▸ List.mem_cons_self
            · exact List.mem_cons_of_mem _ (List.mem_cons_of_mem _ (ih.1 x e))
          · rw [List.length_cons, List.length_cons, List.length_cons]
            omega
        · rw [tell_stop hd]
          simp
    · have ih := tell_mem n r (by omega)
      rw [tell_other hc]
      refine ⟨?_, ?_⟩
      · intro x hx
        rcases List.mem_cons.mp hx with e | e
        · exact e ▸ List.mem_cons_self
        · exact List.mem_cons_of_mem _ (ih.1 x e)
      · rw [List.length_cons, List.length_cons]
        omega
theorem name_co (ns : List Int) : (parseF (replyT ns)).cps.toList = tell (octN ns) := by
  rw [parse_of (reply_co ns)]
theorem name_small (ns : List Int) : ∀ c ∈ (parseF (replyT ns)).cps.toList, c < 256 := by
  rw [name_co]
  intro c hc
  exact octN_small ns c ((tell_mem _ _ (Nat.le_refl _)).1 c hc)
theorem name_len (ns : List Int) : (parseF (replyT ns)).length ≤ 1000 := by
  rw [len_co, name_co]
  have h1 := (tell_mem _ (octN ns) (Nat.le_refl _)).2
  have h2 := octN_len ns
  omega
theorem pics_range (ns : List Int) : ∀ k ∈ (octsOf ns).flatMap picI, 0 ≤ k ∧ k < 256 := by
  intro k hk
  obtain ⟨c, hc, hk⟩ := List.mem_flatMap.mp hk
  have hr := octs_range ns c hc
  obtain ⟨n, rfl⟩ : ∃ n : Nat, c = n := ⟨c.toNat, by omega⟩
  exact (by decide +kernel : ∀ n : Nat, n < 256 → ∀ k ∈ picI (n : Int), 0 ≤ k ∧ k < 256) n (by omega) k hk
theorem pics_len1000 (ns : List Int) : ((octsOf ns).flatMap picI).length ≤ 1000 := by
  have h1 := pics_len (octsOf ns)
  have h2 := octs_len ns
  omega
theorem sevs_range (ns : List Int) : ∀ k ∈ (octsOf ns).map (fun c => c.fmod 128), 0 ≤ k ∧ k < 256 := by
  intro k hk
  obtain ⟨c, _, rfl⟩ := List.mem_map.mp hk
  rw [Int.fmod_eq_emod_of_nonneg _ (by decide)]
  omega
theorem sevs_len (ns : List Int) : ((octsOf ns).map (fun c => c.fmod 128)).length ≤ 1000 := by
  rw [List.length_map]
  exact Nat.le_trans (octs_len ns) (by decide)
theorem octs_len1000 (ns : List Int) : (octsOf ns).length ≤ 1000 := Nat.le_trans (octs_len ns) (by decide)
theorem marks_len (ns : List Int) : (marksT ns).length ≤ 1000 := by
  unfold marksT Txt.join
  rw [StrLaws.glued_eq_join]
  refine Nat.le_trans (StrLaws.join_length_le _ _) ?_
  have h1 := sum_len_le markI 1 (fun c => by unfold markI; split; decide; split <;> decide) (octsOf ns)
  have h2 := octs_len ns
  rw [List.length_map, show (Str.ofString "" : Str).length = 0 from by decide]
  omega
theorem reply_room (ns : List Int) : (Str.ofString "257 \"" : Str).length + (Txt.join (Str.ofString "") ((octsOf ns).map chrI)).length ≤ sizeLine := by
  have e : Txt.join (Str.ofString "") ((octsOf ns).map chrI) = ⟨((octsOf ns).map Int.toNat).toArray⟩ := chr_join (octsOf ns)
  have h1 : (⟨((octsOf ns).map Int.toNat).toArray⟩ : Str).length = (octsOf ns).length := by
    rw [len_co]
    simp
  rw [e, h1, sizeLine_eq, show (Str.ofString "257 \"" : Str).length = 5 from by decide]
  have h2 := octs_len ns
  omega
theorem codes_len (ns : List Int) : (codesI ns).length ≤ 30 := by
  unfold codesI
  have := octs_len ns
  rw [List.length_append]
  simp only [List.length_cons, List.length_nil]
  omega
theorem codes_co (ns : List Int) : (replyT ns).cps.toList = (codesI ns).map Int.toNat := by
  rw [reply_co]
  unfold codesI octN
  rw [List.map_append]
  rfl
theorem codes_range (ns : List Int) : ∀ k ∈ codesI ns, 0 ≤ k ∧ k < 256 := by
  intro k hk
  rcases List.mem_append.mp hk with h | h
  · exact (by decide : ∀ k ∈ ([50, 53, 55, 32, 34] : List Int), 0 ≤ k ∧ k < 256) k h
  · exact octs_range ns k h
theorem flat_one (f : Nat → Nat) (l : List Nat) : (l.flatMap fun c => (one (f c)).cps.toList) = l.map f := by
  induction l with
  | nil => rfl
  | cons a r ih => rw [List.flatMap_cons, ih]; rfl
theorem alt_co (ns : List Int) : (lineS altF (replyT ns)).cps.toList = ((codesI ns).map fun c => c.fmod 128 + 128).map Int.toNat := by
  rw [line_co, codes_co]
  show List.flatMap (fun c => (one (c % 128 + 128)).cps.toList) _ = _
  rw [flat_one (fun c => c % 128 + 128), List.map_map, List.map_map]
  apply List.map_congr_left
  intro c hc
  have := codes_range ns c hc
  show c.toNat % 128 + 128 = (c.fmod 128 + 128).toNat
  rw [Int.fmod_eq_emod_of_nonneg _ (by decide)]
  omega
theorem ctrl_co (ns : List Int) : (lineS ctrlF (replyT ns)).cps.toList = ((codesI ns).map fun c => c.fmod 32).map Int.toNat := by
  rw [line_co, codes_co]
  show List.flatMap (fun c => (one (c % 32)).cps.toList) _ = _
  rw [flat_one (fun c => c % 32), List.map_map, List.map_map]
  apply List.map_congr_left
  intro c hc
  have := codes_range ns c hc
  show c.toNat % 32 = (c.fmod 32).toNat
  rw [Int.fmod_eq_emod_of_nonneg _ (by decide)]
  omega
theorem alts_range (ns : List Int) : ∀ k ∈ (codesI ns).map (fun c => c.fmod 128 + 128), 0 ≤ k ∧ k < 256 := by
  intro k hk
  obtain ⟨c, _, rfl⟩ := List.mem_map.mp hk
  rw [Int.fmod_eq_emod_of_nonneg _ (by decide)]
  omega
theorem ctrls_range (ns : List Int) : ∀ k ∈ (codesI ns).map (fun c => c.fmod 32), 0 ≤ k ∧ k < 256 := by
  intro k hk
  obtain ⟨c, _, rfl⟩ := List.mem_map.mp hk
  rw [Int.fmod_eq_emod_of_nonneg _ (by decide)]
  omega
theorem slice3 {x : Str} {a : Nat} {l : List Nat} (e : x.cps.toList = a :: l) (hl : 2 ≤ l.length) (ha : a ≠ 50) : Txt.slice x none (some 3) ≠ Str.ofString "257" := by
  intro h
  have hb := slice_closes_to (x := x) (j := 3) (by rw [e, List.length_cons]; omega)
  have h2 := eq_of_beq hb
  rw [h, e] at h2
  have h3 := congrArg (fun s : Str => s.cps.toList) h2
  have h4 : ([50, 53, 55] : List Nat) = (a :: l).take 3 := by
    rw [show ([50, 53, 55] : List Nat) = (Str.ofString "257").cps.toList from by decide]
    simpa using h3
  rw [List.take_succ_cons] at h4
  exact ha (List.cons.inj h4).1.symm
theorem alt_slice (ns : List Int) : Txt.slice (lineS altF (replyT ns)) none (some 3) ≠ Str.ofString "257" := by
  have e := alt_co ns
  unfold codesI at e
  rw [List.cons_append, List.map_cons, List.map_cons] at e
  exact slice3 e (by simp) (by decide)
theorem ctrl_slice (ns : List Int) : Txt.slice (lineS ctrlF (replyT ns)) none (some 3) ≠ Str.ofString "257" := by
  have e := ctrl_co ns
  unfold codesI at e
  rw [List.cons_append, List.map_cons, List.map_cons] at e
  exact slice3 e (by simp) (by decide)
theorem alts_len (ns : List Int) : ((codesI ns).map (fun c => c.fmod 128 + 128)).length ≤ 1000 := by
  rw [List.length_map]
  exact Nat.le_trans (codes_len ns) (by decide)
theorem ctrls_len (ns : List Int) : ((codesI ns).map (fun c => c.fmod 32)).length ≤ 1000 := by
  rw [List.length_map]
  exact Nat.le_trans (codes_len ns) (by decide)
end Mine
end
/-! ## PureV0201 -/
section
open PySem PySem.W PyProof PyProof.Rows
namespace Mine
/-! what runs of quotes do to the told text: plain lists of codes -/
def flat : List Nat → List Nat
  | [] => []
  | [r] => List.replicate r 34
  | r :: r' :: t => List.replicate r 34 ++ 162 :: flat (r' :: t)
def firstOdd : List Nat → Option Nat
  | [] => none
  | r :: t => if r % 2 = 1 then some 0 else (firstOdd t).map (· + 1)
/-- how many signs are told ahead of the first odd run's stop -/
def emits : List Nat → Nat
  | [] => 0
  | [r] => r / 2
  | r :: r' :: t => if r % 2 = 1 then r / 2 else r / 2 + 1 + emits (r' :: t)
theorem repl_snoc (a : Nat) (c : Nat) (l : List Nat) : List.replicate a c ++ c :: l = List.replicate (a + 1) c ++ l := by
  rw [List.replicate_succ', List.append_assoc]
  rfl
theorem flat_seven : ∀ rs : List Nat, rs ≠ [] → (flat rs).map (· % 128) = List.replicate (rs.sum + rs.length - 1) 34
  | [], h => absurd rfl h
  | [r], _ => by
    rw [flat, List.map_replicate]
    simp
  | r :: r' :: t, _ => by
    rw [flat, List.map_append, List.map_cons, flat_seven (r' :: t) (by simp), List.map_replicate]
    show List.replicate r 34 ++ 34 :: List.replicate _ 34 = _
    rw [repl_snoc, List.replicate_append_replicate]
    congr 1
    simp only [List.sum_cons, List.length_cons]
    omega
theorem noquote_h (l : List Nat) : NoQuote (162 :: l) := by
  intro d hd
  have : d = 162 := by
    have := hd
    simp at this
    exact this.symm
  omega
theorem repl_two {r : Nat} (h : r % 2 = 0) : List.replicate r 34 = List.replicate (2 * (r / 2)) 34 := by
  congr 1
  omega
theorem repl_one {r : Nat} (h : r % 2 = 1) : List.replicate r 34 = List.replicate (2 * (r / 2) + 1) 34 := by
  congr 1
  omega
/-- a stretch with an odd run: what is told, its eighth bits away -/
theorem told_stop : ∀ (rs : List Nat) (rest : List Nat) (k : Nat), firstOdd rs = some k → NoQuote rest → (tell (flat rs ++ rest)).map (· % 128) = List.replicate (emits rs) 34
  | [], _, _, h, _ => by cases h
  | [r], rest, k, h, hn => by
    have hr : r % 2 = 1 := by
      rw [firstOdd] at h
      split at h
      · assumption
      · cases h
    rw [flat, repl_one hr, tell_odd _ hn, emits, List.map_replicate]
  | r :: r' :: t, rest, k, h, hn => by
    rw [firstOdd] at h
    rw [flat, emits, List.append_assoc]
    by_cases hr : r % 2 = 1
    · rw [if_pos hr, repl_one hr, List.cons_append, tell_odd _ (noquote_h _), List.map_replicate]
    · rw [if_neg hr] at h ⊢
      obtain ⟨k', hk', rfl⟩ : ∃ k', firstOdd (r' :: t) = some k' ∧ k' + 1 = k := by
        cases hq : firstOdd (r' :: t) with
        | none => rw [hq] at h; cases h
        | some k' => rw [hq] at h; exact ⟨k', rfl, Option.some.inj h⟩
      rw [repl_two (by omega), tell_even, List.cons_append, tell_other (by decide), List.map_append, List.map_cons, told_stop (r' :: t) rest k' hk' hn, List.map_replicate]
      show List.replicate (r / 2) 34 ++ 34 :: List.replicate _ 34 = _
      rw [repl_snoc, List.replicate_append_replicate]
/-- a stretch of even runs -/
theorem told_even : ∀ (rs : List Nat) (rest : List Nat), rs ≠ [] → firstOdd rs = none → (tell (flat rs ++ rest)).map (· % 128) = List.replicate (rs.sum / 2 + rs.length - 1) 34 ++ (tell rest).map (· % 128) ∧ rs.sum % 2 = 0
  | [], _, h, _ => absurd rfl h
  | [r], rest, _, h => by
    have hr : ¬ r % 2 = 1 := by
      rw [firstOdd] at h
      split at h
      · cases h
      · assumption
    rw [flat, repl_two (by omega), tell_even, List.map_append, List.map_replicate]
    simp
    omega
  | r :: r' :: t, rest, _, h => by
    rw [firstOdd] at h
    by_cases hr : r % 2 = 1
    · rw [if_pos hr] at h
      cases h
    · rw [if_neg hr] at h
      have hk : firstOdd (r' :: t) = none := by
        cases hq : firstOdd (r' :: t) with
        | none => rfl
        | some k' => rw [hq] at h; cases h
      obtain ⟨ih, he⟩ := told_even (r' :: t) rest (by simp) hk
      rw [flat, List.append_assoc, repl_two (by omega), tell_even, List.cons_append, tell_other (by decide), List.map_append, List.map_cons, ih, List.map_replicate]
      refine ⟨?_, ?_⟩
      · show List.replicate (r / 2) 34 ++ 34 :: (List.replicate _ 34 ++ _) = _
        rw [repl_snoc, ← List.append_assoc, List.replicate_append_replicate]
        congr 2
        have e1 : (r :: r' :: t).sum = r + (r' :: t).sum := List.sum_cons
        have e2 : (r :: r' :: t).length = (r' :: t).length + 1 := List.length_cons
        rw [e1, e2]
        have : 1 ≤ (r' :: t).length := by simp
        generalize (r' :: t).sum = S at *
        generalize (r' :: t).length = n at *
        omega
      · have e1 : (r :: r' :: t).sum = r + (r' :: t).sum := List.sum_cons
        rw [e1]
        generalize (r' :: t).sum = S at *
        omega
theorem emits_eq : ∀ (rs : List Nat) (k : Nat), firstOdd rs = some k → 2 * emits rs + 1 = (rs.take (k + 1)).sum + 2 * k ∧ k < rs.length
  | [], _, h => by cases h
  | [r], k, h => by
    rw [firstOdd] at h
    split at h
    · have : k = 0 := (Option.some.inj h).symm
      subst this
      simp [emits]
      omega
    · cases h
  | r :: r' :: t, k, h => by
    rw [firstOdd] at h
    by_cases hr : r % 2 = 1
    · rw [if_pos hr] at h
      have : k = 0 := (Option.some.inj h).symm
      subst this
      rw [emits, if_pos hr]
      simp
      omega
    · rw [if_neg hr] at h
      obtain ⟨k', hk', rfl⟩ : ∃ k', firstOdd (r' :: t) = some k' ∧ k' + 1 = k := by
        cases hq : firstOdd (r' :: t) with
        | none => rw [hq] at h; cases h
        | some k' => rw [hq] at h; exact ⟨k', rfl, Option.some.inj h⟩
      obtain ⟨ih, hl⟩ := emits_eq (r' :: t) k' hk'
      rw [emits, if_neg hr, List.take_succ_cons, List.sum_cons, List.length_cons]
      generalize (List.take (k' + 1) (r' :: t)).sum = S at *
      generalize emits (r' :: t) = e at *
      refine ⟨?_, by omega⟩
      omega
def SameA (l : List Nat) : Prop := tell (l.map (· % 128)) = (tell l).map (· % 128)
/-- what may lie behind a stretch: nothing, or a sign that is no quote, not even without its eighth bit -/
def Behind (rest : List Nat) : Prop := rest = [] ∨ ∃ c l, rest = c :: l ∧ c % 128 ≠ 34
theorem behind_no {rest : List Nat} (h : Behind rest) : NoQuote rest ∧ NoQuote (rest.map (· % 128)) := by
  rcases h with rfl | ⟨c, l, rfl, hc⟩
  · exact ⟨fun d hd => by simp at hd, fun d hd => by simp at hd⟩
  · refine ⟨fun d hd => ?_, fun d hd => ?_⟩
    · simp at hd
      omega
    · simp at hd
      omega
theorem repl_ne {a b : Nat} {l : List Nat} (h : List.replicate a 34 = List.replicate b 34 ++ l) (hl : ∀ c ∈ l, c ≠ 34) : a = b ∧ l = [] := by
  cases l with
  | nil =>
    have := congrArg List.length h
    simp at this
    exact ⟨this, rfl⟩
  | cons c l =>
    have hc : c ∈ List.replicate a 34 := by rw [h]; simp
    exact absurd (List.eq_of_mem_replicate hc) (hl c List.mem_cons_self)
theorem sameA_odd {rs rest : List Nat} {k : Nat} (hb : Behind rest) (h : firstOdd rs = some k) :
    SameA (flat rs ++ rest) ↔ ((rs.drop (k + 1)).sum + rs.length - 1 - k = k ∨ (rest = [] ∧ (rs.drop (k + 1)).sum + rs.length - 1 - k + 1 = k)) := by
  have hne : rs ≠ [] := by
    rintro rfl
    cases h
  obtain ⟨hn, hn'⟩ := behind_no hb
  obtain ⟨he, hk⟩ := emits_eq rs k h
  have hsum : rs.sum = (rs.take (k + 1)).sum + (rs.drop (k + 1)).sum := by
    conv => lhs; rw [← List.take_append_drop (k + 1) rs, List.sum_append_nat]
  unfold SameA
  rw [told_stop rs rest k h hn, List.map_append, flat_seven rs hne]
  generalize (rs.take (k + 1)).sum = A at *
  generalize (rs.drop (k + 1)).sum = B at *
  generalize rs.length = n at *
  generalize emits rs = e at *
  have hT : rs.sum + n - 1 = A + B + n - 1 := by omega
  rw [hT]
  rcases Nat.mod_two_eq_zero_or_one (A + B + n - 1) with hT2 | hT2
  · rw [repl_two hT2, tell_even]
    rcases hb with rfl | ⟨c, l, rfl, hc⟩
    · have : tell (List.map (· % 128) []) = [] := rfl
      rw [this, List.append_nil]
      refine ⟨fun q => ?_, fun q => ?_⟩
      · have := congrArg List.length q
        simp only [List.length_replicate] at this
        right
        exact ⟨rfl, by omega⟩
      · congr 1
        rcases q with q | ⟨_, q⟩ <;> omega
    · rw [List.map_cons, tell_other hc]
      refine ⟨fun q => ?_, fun q => ?_⟩
      · exfalso
        have hm : c % 128 ∈ List.replicate e 34 := by rw [← q]; simp
        exact hc (List.eq_of_mem_replicate hm)
      · exfalso
        rcases q with q | ⟨q, _⟩
        · omega
        · cases q
  · rw [repl_one hT2, tell_odd _ hn']
    refine ⟨fun q => ?_, fun q => ?_⟩
    · have := congrArg List.length q
      simp only [List.length_replicate] at this
      left
      omega
    · congr 1
      rcases q with q | ⟨_, q⟩ <;> omega
theorem sameA_many {rs rest : List Nat} (hb : Behind rest) (h : firstOdd rs = none) (hl : 1 < rs.length) : ¬ SameA (flat rs ++ rest) := by
  have hne : rs ≠ [] := by
    rintro rfl
    simp at hl
  obtain ⟨hn, hn'⟩ := behind_no hb
  obtain ⟨he, hs⟩ := told_even rs rest hne h
  unfold SameA
  rw [he, List.map_append, flat_seven rs hne]
  generalize rs.sum = S at *
  generalize rs.length = n at *
  intro q
  rcases Nat.mod_two_eq_zero_or_one (S + n - 1) with hT2 | hT2
  · rw [repl_two hT2, tell_even] at q
    have e1 : S / 2 + n - 1 = (S + n - 1) / 2 + ((S / 2 + n - 1 - (S + n - 1) / 2 - 1) + 1) := by omega
    rw [e1, ← List.replicate_append_replicate, List.append_assoc] at q
    have q2 := List.append_cancel_left q
    rw [List.replicate_succ, List.cons_append] at q2
    rcases hb with rfl | ⟨c, l, rfl, hc⟩
    · cases q2
    · rw [List.map_cons, tell_other hc] at q2
      exact hc (List.cons.inj q2).1
  · rw [repl_one hT2, tell_odd _ hn'] at q
    have := congrArg List.length q
    simp only [List.length_replicate, List.length_append] at this
    omega
theorem sameA_one {r : Nat} {rest : List Nat} (h : ¬ r % 2 = 1) : SameA (flat [r] ++ rest) ↔ SameA rest := by
  unfold SameA
  rw [flat, repl_two (by omega), tell_even, List.map_append, List.map_replicate, tell_even, List.map_append, List.map_replicate]
  exact ⟨fun q => List.append_cancel_left q, fun q => by rw [q]⟩
theorem sameA_cons {c : Nat} {l : List Nat} (hc : c % 128 ≠ 34) : SameA (c :: l) ↔ SameA l := by
  unfold SameA
  have h2 : ¬ c = 34 := by
    rintro rfl
    exact hc rfl
  rw [List.map_cons, tell_other hc, tell_other h2, List.map_cons]
  exact ⟨fun q => (List.cons.inj q).2, fun q => by rw [q]⟩
end Mine
end
/-! ## PureR0201 -/
section
open PySem PySem.W PyProof PyProof.Rows
namespace Mine
def mk (c : Nat) : Nat := if c = 34 then 113 else if c = 162 then 104 else 32
def runsL (s : List Nat) : List Nat := (splitL 104 s).map List.length
def runsAll (l : List Nat) : List (List Nat) := (splitL 32 (l.map mk)).map runsL
theorem splitL_cons (c _a : Nat) (l : List Nat) : ∃ p ps, splitL c l = p :: ps := by
  cases h : splitL c l with
  | nil => exact absurd h (splitL_ne c l)
  | cons p ps => exact ⟨p, ps, rfl⟩
theorem runsAll_quote {l : List Nat} {rs : List Nat} {R : List (List Nat)} (h : runsAll l = rs :: R) : ∃ r t, rs = r :: t ∧ runsAll (34 :: l) = ((r + 1) :: t) :: R := by
  unfold runsAll at h ⊢
  obtain ⟨p, ps, e⟩ := splitL_cons 32 0 (l.map mk)
  obtain ⟨q, qs, e2⟩ := splitL_cons 104 0 p
  rw [e, List.map_cons] at h
  have h1 := (List.cons.inj h).1
  have h2 := (List.cons.inj h).2
  unfold runsL at h1
  rw [e2, List.map_cons] at h1
  refine ⟨q.length, qs.map List.length, h1.symm, ?_⟩
  rw [List.map_cons, show mk 34 = 113 from rfl, splitL, if_neg (by decide), e]
  show runsL (113 :: p) :: List.map runsL ps = _
  rw [h2]
  congr 1
  unfold runsL
  rw [splitL, if_neg (by decide), e2]
  rfl
theorem runsAll_high {l : List Nat} {rs : List Nat} {R : List (List Nat)} (h : runsAll l = rs :: R) : runsAll (162 :: l) = (0 :: rs) :: R := by
  unfold runsAll at h ⊢
  obtain ⟨p, ps, e⟩ := splitL_cons 32 0 (l.map mk)
  rw [e, List.map_cons] at h
  have h1 := (List.cons.inj h).1
  have h2 := (List.cons.inj h).2
  rw [List.map_cons, show mk 162 = 104 from rfl, splitL, if_neg (by decide), e]
  show runsL (104 :: p) :: List.map runsL ps = _
  rw [h2]
  congr 1
  unfold runsL at h1 ⊢
  rw [splitL, if_pos rfl, List.map_cons, h1]
  rfl
theorem runsAll_other {c : Nat} {l : List Nat} (h1 : c ≠ 34) (h2 : c ≠ 162) : runsAll (c :: l) = [0] :: runsAll l := by
  unfold runsAll
  have : mk c = 32 := by rw [mk, if_neg h1, if_neg h2]
  rw [List.map_cons, this, splitL, if_pos rfl, List.map_cons]
  rfl
def restRuns : List Nat → List (List Nat)
  | [] => []
  | _ :: l => runsAll l
theorem flat_one_more (r : Nat) (t : List Nat) : flat ((r + 1) :: t) = 34 :: flat (r :: t) := by
  cases t with
  | nil => rfl
  | cons a b => rfl
theorem flat_zero {rs : List Nat} (h : rs ≠ []) : flat (0 :: rs) = 162 :: flat rs := by
  cases rs with
  | nil => exact absurd rfl h
  | cons a b => rfl
theorem stretch : ∀ l : List Nat, (∀ c ∈ l, c < 256) → ∃ rs rest, l = flat rs ++ rest ∧ rs ≠ [] ∧ Behind rest ∧ runsAll l = rs :: restRuns rest
  | [], _ => ⟨[0], [], rfl, by simp, .inl rfl, rfl⟩
  | c :: l, hs => by
    by_cases h1 : c = 34
    · subst h1
      obtain ⟨rs, rest, e, hne, hb, hr⟩ := stretch l (fun x hx => hs x (List.mem_cons_of_mem _ hx))
      obtain ⟨r, t, rfl, hq⟩ := runsAll_quote hr
      exact ⟨(r + 1) :: t, rest, by rw [flat_one_more, List.cons_append, ← e], by simp, hb, hq⟩
    · by_cases h2 : c = 162
      · subst h2
        obtain ⟨rs, rest, e, hne, hb, hr⟩ := stretch l (fun x hx => hs x (List.mem_cons_of_mem _ hx))
        exact ⟨0 :: rs, rest, by rw [flat_zero hne, List.cons_append, ← e], by simp, hb, runsAll_high hr⟩
      · have h3 := hs c List.mem_cons_self
        exact ⟨[0], c :: l, rfl, by simp, .inr ⟨c, l, rfl, by omega⟩, runsAll_other h1 h2⟩
def sevenN : List (List Nat) → Bool
  | [] => true
  | rs :: rest => match firstOdd rs with
    | some k => decide ((rs.drop (k + 1)).sum + rs.length - 1 - k = k) || (rest.isEmpty && decide ((rs.drop (k + 1)).sum + rs.length - 1 - k + 1 = k))
    | none => if rs.length > 1 then false else sevenN rest
theorem splitL_ne' (_c : Nat) (l : List Nat) : (runsAll l).isEmpty = false := by
  unfold runsAll
  obtain ⟨p, ps, e⟩ := splitL_cons 32 0 (l.map mk)
  rw [e]
  rfl
theorem restRuns_empty {rest : List Nat} : (restRuns rest).isEmpty = true ↔ rest = [] := by
  cases rest with
  | nil => simp [restRuns]
  | cons a l =>
    have := splitL_ne' 0 l
    simp [restRuns, this]
theorem sameA_seven : ∀ (n : Nat) (l : List Nat), l.length ≤ n → (∀ c ∈ l, c < 256) → (SameA l ↔ sevenN (runsAll l) = true) := by
  intro n
  induction n with
  | zero =>
    intro l hl hs
    have : l = [] := List.length_eq_zero_iff.mp (by omega)
    subst this
    exact ⟨fun _ => rfl, fun _ => rfl⟩
  | succ n ih =>
    intro l hl hs
    obtain ⟨rs, rest, e, hne, hb, hr⟩ := stretch l hs
    rw [hr, sevenN]
    cases ho : firstOdd rs with
    | some k =>
      rw [e, sameA_odd hb ho]
      simp only [Bool.or_eq_true, Bool.and_eq_true, decide_eq_true_eq, restRuns_empty]
    | none =>
      by_cases hg : rs.length > 1
      · simp only [if_pos hg]
        exact ⟨fun q => absurd (e ▸ q) (sameA_many hb ho hg), fun q => by cases q⟩
      · simp only [if_neg hg]
        obtain ⟨r, rfl⟩ : ∃ r, rs = [r] := by
          cases rs with
          | nil => exact absurd rfl hne
          | cons r t =>
            cases t with
            | nil => exact ⟨r, rfl⟩
            | cons a b => simp at hg
        have hodd : ¬ r % 2 = 1 := by
          rw [firstOdd] at ho
          split at ho
          · cases ho
          · assumption
        rw [e, sameA_one hodd]
        rcases hb with rfl | ⟨c, l', rfl, hc⟩
        · exact ⟨fun _ => rfl, fun _ => rfl⟩
        · rw [sameA_cons hc]
          refine ih l' ?_ ?_
          · rw [e, List.length_append, List.length_cons] at hl
            omega
          · intro x hx
            exact hs x (by rw [e]; exact List.mem_append.mpr (.inr (List.mem_cons_of_mem _ hx)))
/-! the walk's word for it -/
theorem odd_fold (rs : List Int) : ∀ (ks l : List Int), ks.foldl (oddStep rs) l = l ++ ks.filter (fun k => decide ((rs.getD k.toNat 0).fmod 2 = 1))
  | [], l => by simp
  | k :: ks, l => by
    rw [List.foldl_cons, odd_fold rs ks, oddStep, List.filter_cons]
    by_cases h : (rs.getD k.toNat 0).fmod 2 = 1
    · rw [if_pos h, if_pos (by simpa using h), List.append_assoc]
      rfl
    · rw [if_neg h, if_neg (by simpa using h)]
def oddN (rs : List Nat) : List Nat := (List.range rs.length).filter fun k => decide (rs.getD k 0 % 2 = 1)
theorem odds_are (rs : List Nat) : oddsOf (rs.map Int.ofNat) = (oddN rs).map Int.ofNat := by
  unfold oddsOf oddN
  rw [odd_fold, List.nil_append, List.length_map, rangeKs, List.filter_map]
  have e : (fun i : Nat => (0 : Int) + (i : Int)) = Int.ofNat := funext fun i => Int.zero_add _
  rw [e]
  congr 1
  apply List.filter_congr
  intro k hk
  have hk' : k < rs.length := List.mem_range.mp hk
  show decide ((((rs.map Int.ofNat).getD (Int.ofNat k).toNat 0).fmod 2) = 1) = _
  have e2 : (rs.map Int.ofNat).getD (Int.ofNat k).toNat 0 = Int.ofNat (rs.getD k 0) := by
    show (rs.map Int.ofNat).getD k 0 = _
    rw [List.getD_eq_getElem?_getD, List.getD_eq_getElem?_getD, List.getElem?_map, List.getElem?_eq_getElem hk']
    rfl
  rw [e2, Int.fmod_eq_emod_of_nonneg _ (by decide), Bool.eq_iff_iff]
  simp only [decide_eq_true_eq]
  show ((rs.getD k 0 : Nat) : Int) % 2 = 1 ↔ _
  omega
theorem oddN_head : ∀ rs : List Nat, (oddN rs).head? = firstOdd rs
  | [] => rfl
  | r :: t => by
    have ih := oddN_head t
    unfold oddN at ih ⊢
    rw [List.length_cons, List.range_succ_eq_map, List.filter_cons, firstOdd]
    by_cases h : r % 2 = 1
    · rw [if_pos (by simpa using h), if_pos h]
      rfl
    · rw [if_neg (by simpa using h), if_neg h, List.filter_map, List.head?_map]
      have e : ((fun k => decide ((r :: t).getD k 0 % 2 = 1)) ∘ Nat.succ) = fun k => decide (t.getD k 0 % 2 = 1) := rfl
      rw [e, ih]
theorem sum_cast : ∀ l : List Nat, (l.map Int.ofNat).sum = Int.ofNat l.sum
  | [] => rfl
  | a :: l => by
    rw [List.map_cons, List.sum_cons, List.sum_cons, sum_cast l]
    rfl
theorem firstOdd_lt : ∀ {rs : List Nat} {k : Nat}, firstOdd rs = some k → k < rs.length := fun h => (emits_eq _ _ h).2
theorem seven_go_n : ∀ rss : List (List Nat), sevenGo (rss.map fun rs => rs.map Int.ofNat) = sevenN rss
  | [] => rfl
  | rs :: rest => by
    rw [List.map_cons, sevenGo, sevenN, odds_are, ← oddN_head]
    have ho := oddN_head rs
    cases hq : oddN rs with
    | nil =>
      simp only [List.map_nil, List.head?_nil, List.length_map]
      rw [seven_go_n rest]
    | cons k t =>
      rw [hq, List.head?_cons] at ho
      have hk := firstOdd_lt ho.symm
      simp only [List.map_cons, List.head?_cons]
      have hb : behindOf (rs.map Int.ofNat) (Int.ofNat k) = Int.ofNat ((rs.drop (k + 1)).sum + rs.length - 1 - k) := by
        unfold behindOf
        rw [List.length_map, show (Int.ofNat k + 1).toNat = k + 1 from rfl, ← List.map_drop, sum_cast]
        generalize (rs.drop (k + 1)).sum = B
        show (B : Int) + (rs.length : Int) - 1 - (k : Int) = ((B + rs.length - 1 - k : Nat) : Int)
        omega
      rw [hb, List.isEmpty_map]
      generalize (rs.drop (k + 1)).sum + rs.length - 1 - k = b
      have e1 : decide (Int.ofNat b = Int.ofNat k) = decide (b = k) := by
        rw [Bool.eq_iff_iff]
        simp only [decide_eq_true_eq]
        exact ⟨fun h => Int.ofNat.inj h, fun h => by rw [h]⟩
      have e2 : decide (Int.ofNat b = Int.ofNat k - 1) = decide (b + 1 = k) := by
        rw [Bool.eq_iff_iff]
        simp only [decide_eq_true_eq]
        show (b : Int) = (k : Int) - 1 ↔ _
        omega
      rw [e1, e2]
theorem runsOf_co (s : Str) : runsOf s = (runsL s.cps.toList).map Int.ofNat := by
  unfold runsOf runsL
  rw [show (Str.ofString "h" : Str) = ⟨#[104]⟩ from by decide, ← split_co, List.map_map, List.map_map]
  apply List.map_congr_left
  intro r _
  show (r.length : Int) = ((r.cps.toList.length : Nat) : Int)
  rw [len_co]
theorem seven_co {x : Str} {l : List Nat} (e : x.cps.toList = l.map mk) : sevenF x = sevenN (runsAll l) := by
  unfold sevenF stretchesOf
  rw [← seven_go_n]
  congr 1
  unfold runsAll
  rw [← e, show (Str.ofString " " : Str) = ⟨#[32]⟩ from by decide, ← split_co, List.map_map, List.map_map]
  apply List.map_congr_left
  intro s _
  exact runsOf_co s
theorem marks_co (ns : List Int) : (marksT ns).cps.toList = (octN ns).map mk := by
  unfold marksT octN
  rw [join_nil_flat, List.map_map]
  have hr := octs_range ns
  generalize octsOf ns = l at hr
  induction l with
  | nil => rfl
  | cons c l ih =>
    rw [List.map_cons, List.flatMap_cons, List.map_cons]
    have ih' := ih (fun k hk => hr k (List.mem_cons_of_mem _ hk))
    have hc := hr c List.mem_cons_self
    have e : (markI c).cps.toList = [mk c.toNat] := by
      unfold markI mk
      by_cases h1 : c = 34
      · rw [if_pos h1, if_pos (by omega)]
        decide
      · by_cases h2 : c = 162
        · rw [if_neg h1, if_pos h2, if_neg (by omega), if_pos (by omega)]
          decide
        · rw [if_neg h1, if_neg h2, if_neg (by omega), if_neg (by omega)]
          decide
    have ih2 : (List.map markI l).flatMap (fun y => y.cps.toList) = List.map (mk ∘ Int.toNat) l := by
      simpa using ih'
    show ((markI c).cps.toList ++ (List.map markI l).flatMap fun y => y.cps.toList) = _
    rw [e, ih2]
    rfl
theorem lawS (ns : List Int) : (parseF (lineS asciiF (replyT ns)) == lineS asciiF (parseF (replyT ns))) = sevenF (marksT ns) := by
  rw [seven_co (marks_co ns), Bool.eq_iff_iff, ← sameA_seven _ (octN ns) (Nat.le_refl _) (octN_small ns), beq_iff_eq]
  have e1 : (parseF (lineS asciiF (replyT ns))).cps.toList = tell ((octN ns).map (· % 128)) := by rw [parse_of (asc_co ns)]
  have e2 : (lineS asciiF (parseF (replyT ns))).cps.toList = (tell (octN ns)).map (· % 128) := by
    rw [line_co, name_co]
    exact flat_one (fun c => c % 128) _
  unfold SameA
  rw [← e1, ← e2]
  exact ⟨fun h => by rw [h], fun h => str_ext h⟩
end Mine
end
/-! ## PureU0201 -/
section
open PySem PySem.W PyProof PyProof.Rows
namespace Mine
theorem pic_plain {c : Nat} (h : c < 256) (h1 : c ≠ 34) (h2 : c ≠ 162) : (∀ x ∈ pic c, x ≠ 34) ∧ pic c ≠ [] :=
  (by decide +kernel : ∀ c : Nat, c < 256 → c ≠ 34 → c ≠ 162 → (∀ x ∈ pic c, x ≠ 34) ∧ pic c ≠ []) c h h1 h2
theorem tell_plain : ∀ (p m : List Nat), (∀ x ∈ p, x ≠ 34) → tell (p ++ m) = p ++ tell m
  | [], _, _ => rfl
  | a :: p, m, h => by rw [List.cons_append, tell_other (h a List.mem_cons_self), tell_plain p m (fun x hx => h x (List.mem_cons_of_mem _ hx))]; rfl
theorem runs34 : ∀ l : List Nat, ∃ r rest, l = List.replicate r 34 ++ rest ∧ NoQuote rest
  | [] => ⟨0, [], rfl, fun _ hd => by simp at hd⟩
  | c :: l => by
    by_cases h : c = 34
    · subst h
      obtain ⟨r, rest, e, hn⟩ := runs34 l
      exact ⟨r + 1, rest, by rw [List.replicate_succ, List.cons_append, ← e], hn⟩
    · exact ⟨0, c :: l, rfl, fun d hd => by simp at hd; omega⟩
theorem pic_repl (r : Nat) : (List.replicate r 34).flatMap pic = List.replicate r 34 := by
  induction r with
  | zero => rfl
  | succ r ih =>
    rw [List.replicate_succ, List.flatMap_cons, ih]
    rfl
theorem noq_app {a b : List Nat} (ha : ∀ x ∈ a, x ≠ 34) (hne : a ≠ []) : NoQuote (a ++ b) := by
  cases a with
  | nil => exact absurd rfl hne
  | cons x a =>
    intro d hd
    simp at hd
    exact hd ▸ ha x List.mem_cons_self
def oddp (pre : List Nat) : Bool := (splitL 32 (pre.map mk)).any fun r => decide (r.length % 2 = 1)
theorem mk_repl (r : Nat) : (List.replicate r 34).map mk = List.replicate r 113 := by rw [List.map_replicate]; rfl
theorem no32 (r : Nat) : (32 : Nat) ∉ List.replicate r 113 := fun h => by
  have := List.eq_of_mem_replicate h
  omega
theorem oddp_end (r : Nat) : oddp (List.replicate r 34) = decide (r % 2 = 1) := by
  unfold oddp
  rw [mk_repl, splitL_free (no32 r)]
  simp
theorem oddp_cons (r c : Nat) (l : List Nat) (h1 : c ≠ 34) (h2 : c ≠ 162) : oddp (List.replicate r 34 ++ c :: l) = (decide (r % 2 = 1) || oddp l) := by
  unfold oddp
  rw [List.map_append, mk_repl, List.map_cons, show mk c = 32 from by rw [mk, if_neg h1, if_neg h2], splitL_cut _ (no32 r)]
  simp
theorem pre_told : ∀ (n : Nat) (pre : List Nat), pre.length ≤ n → (∀ c ∈ pre, c < 256 ∧ c ≠ 162) → ∃ t : List Nat, ∀ z z', NoQuote z → NoQuote z' →
    (oddp pre = true → tell (pre ++ z) = t ∧ tell (pre.flatMap pic ++ z') = t.flatMap pic) ∧
    (oddp pre = false → tell (pre ++ z) = t ++ tell z ∧ tell (pre.flatMap pic ++ z') = t.flatMap pic ++ tell z') := by
  intro n
  induction n with
  | zero =>
    intro pre hl _
    have : pre = [] := List.length_eq_zero_iff.mp (by omega)
    subst this
    refine ⟨[], fun z z' _ _ => ⟨fun h => ?_, fun _ => ⟨rfl, rfl⟩⟩⟩
    exact absurd h (by decide)
  | succ n ih =>
    intro pre hl hs
    obtain ⟨r, rest, e, hn⟩ := runs34 pre
    have hc : rest = [] ∨ ∃ c l, rest = c :: l ∧ c ≠ 34 ∧ c ≠ 162 ∧ c < 256 ∧ l.length ≤ n ∧ ∀ x ∈ l, x < 256 ∧ x ≠ 162 := by
      cases rest with
      | nil => exact .inl rfl
      | cons c l =>
        have hm : ∀ x ∈ c :: l, x ∈ pre := fun x hx => by rw [e]; exact List.mem_append.mpr (.inr hx)
        have h1 := hs c (hm c List.mem_cons_self)
        refine .inr ⟨c, l, rfl, hn c rfl, h1.2, h1.1, ?_, fun x hx => hs x (hm x (List.mem_cons_of_mem _ hx))⟩
        rw [e, List.length_append, List.length_cons] at hl
        omega
    rcases Nat.mod_two_eq_zero_or_one r with hr | hr
    · rcases hc with rfl | ⟨c, l, rfl, h1, h2, h3, h4, h5⟩
      · rw [List.append_nil] at e
        subst e
        refine ⟨List.replicate (r / 2) 34, fun z z' hz hz' => ⟨fun h => ?_, fun _ => ⟨?_, ?_⟩⟩⟩
        · rw [oddp_end, decide_eq_true_eq] at h
          omega
        · rw [repl_two hr, tell_even]
        · rw [pic_repl, pic_repl, repl_two hr, tell_even]
      · obtain ⟨t, ht⟩ := ih l h4 h5
        obtain ⟨hp1, hp2⟩ := pic_plain h3 h1 h2
        subst e
        have a1 : ∀ z, tell (List.replicate r 34 ++ c :: l ++ z) = List.replicate (r / 2) 34 ++ c :: tell (l ++ z) := fun z => by
          rw [List.append_assoc, repl_two hr, tell_even, List.cons_append, tell_other h1]
        have a2 : ∀ z, tell ((List.replicate r 34 ++ c :: l).flatMap pic ++ z) = List.replicate (r / 2) 34 ++ (pic c ++ tell (l.flatMap pic ++ z)) := fun z => by
          rw [List.flatMap_append, pic_repl, List.append_assoc, repl_two hr, tell_even, List.flatMap_cons, List.append_assoc, tell_plain _ _ hp1]
        have a3 : ∀ t : List Nat, (List.replicate (r / 2) 34 ++ c :: t).flatMap pic = List.replicate (r / 2) 34 ++ (pic c ++ t.flatMap pic) := fun t => by
          rw [List.flatMap_append, pic_repl, List.flatMap_cons]
        have a4 : oddp (List.replicate r 34 ++ c :: l) = oddp l := by
          rw [oddp_cons r c l h1 h2, decide_eq_false (by omega)]
          rfl
        refine ⟨List.replicate (r / 2) 34 ++ c :: t, fun z z' hz hz' => ⟨fun h => ?_, fun h => ?_⟩⟩
        · rw [a4] at h
          obtain ⟨b1, b2⟩ := (ht z z' hz hz').1 h
          rw [a1, a2, a3, b1, b2]
          exact ⟨rfl, rfl⟩
        · rw [a4] at h
          obtain ⟨b1, b2⟩ := (ht z z' hz hz').2 h
          rw [a1, a2, a3, b1, b2]
          simp
    · have ho : oddp pre = true := by
        rcases hc with rfl | ⟨c, l, rfl, h1, h2, h3, h4, h5⟩
        · rw [e, List.append_nil, oddp_end, decide_eq_true hr]
        · rw [e, oddp_cons r c l h1 h2, decide_eq_true hr]
          rfl
      refine ⟨List.replicate (r / 2) 34, fun z z' hz hz' => ⟨fun _ => ?_, fun h => by rw [ho] at h; cases h⟩⟩
      have n1 : NoQuote (rest ++ z) := by
        rcases hc with rfl | ⟨c, l, rfl, h1, h2, h3, h4, h5⟩
        · exact hz
        · exact fun d hd => by simp at hd; omega
      have n2 : NoQuote (rest.flatMap pic ++ z') := by
        rcases hc with rfl | ⟨c, l, rfl, h1, h2, h3, h4, h5⟩
        · exact hz'
        · obtain ⟨hp1, hp2⟩ := pic_plain h3 h1 h2
          rw [List.flatMap_cons, List.append_assoc]
          exact noq_app hp1 hp2
      rw [e, List.append_assoc, List.flatMap_append, List.append_assoc, pic_repl, pic_repl, repl_one hr, tell_odd _ n1, tell_odd _ n2]
      exact ⟨rfl, rfl⟩
def SameU (l : List Nat) : Prop := tell (l.flatMap pic) = (tell l).flatMap pic
theorem split162 : ∀ l : List Nat, (162 : Nat) ∉ l ∨ ∃ pre post, l = pre ++ 162 :: post ∧ (162 : Nat) ∉ pre
  | [] => .inl (by simp)
  | c :: l => by
    by_cases h : c = 162
    · exact .inr ⟨[], l, by rw [h]; rfl, by simp⟩
    · rcases split162 l with hl | ⟨pre, post, e, hp⟩
      · exact .inl (by
          rw [List.mem_cons, not_or]
          exact ⟨Ne.symm h, hl⟩)
      · exact .inr ⟨c :: pre, post, by rw [e]; rfl, by
          rw [List.mem_cons, not_or]
          exact ⟨Ne.symm h, hp⟩⟩
theorem noq_nil : NoQuote [] := fun _ hd => by simp at hd
theorem sameU_free {l : List Nat} (hs : ∀ c ∈ l, c < 256) (h : (162 : Nat) ∉ l) : SameU l := by
  obtain ⟨t, ht⟩ := pre_told _ l (Nat.le_refl _) (fun c hc => ⟨hs c hc, fun e => h (e ▸ hc)⟩)
  obtain ⟨b1, b2⟩ := ht [] [] noq_nil noq_nil
  have e0 : tell [] = [] := rfl
  rw [List.append_nil, List.append_nil] at b1
  rw [List.append_nil, List.append_nil, e0, List.append_nil, List.append_nil] at b2
  unfold SameU
  cases ho : oddp l with
  | true => rw [(b1 ho).1, (b1 ho).2]
  | false => rw [(b2 ho).1, (b2 ho).2]
theorem sameU_odd {pre post : List Nat} (hs : ∀ c ∈ pre, c < 256 ∧ c ≠ 162) (h : oddp pre = true) : SameU (pre ++ 162 :: post) := by
  obtain ⟨t, ht⟩ := pre_told _ pre (Nat.le_refl _) hs
  obtain ⟨b1, _⟩ := ht (162 :: post) ((162 :: post).flatMap pic) (noquote_h _) (fun d hd => by
    have : d = 33 := by
      have hd' := hd
      rw [List.flatMap_cons, show pic 162 = [33, 34] from rfl] at hd'
      simp at hd'
      exact hd'.symm
    omega)
  unfold SameU
  rw [List.flatMap_append, (b1 h).1, (b1 h).2]
theorem sameU_even {pre post : List Nat} (hs : ∀ c ∈ pre, c < 256 ∧ c ≠ 162) (h : oddp pre = false) : SameU (pre ++ 162 :: post) ↔ tell (34 :: post.flatMap pic) = 34 :: (tell post).flatMap pic := by
  obtain ⟨t, ht⟩ := pre_told _ pre (Nat.le_refl _) hs
  obtain ⟨_, b1⟩ := ht (162 :: post) ((162 :: post).flatMap pic) (noquote_h _) (fun d hd => by
    have : d = 33 := by
      have hd' := hd
      rw [List.flatMap_cons, show pic 162 = [33, 34] from rfl] at hd'
      simp at hd'
      exact hd'.symm
    omega)
  unfold SameU
  rw [List.flatMap_append, (b1 h).1, (b1 h).2, List.flatMap_append, tell_other (by decide), List.flatMap_cons, List.flatMap_cons, show pic 162 = [33, 34] from rfl]
  show t.flatMap pic ++ tell (33 :: 34 :: post.flatMap pic) = t.flatMap pic ++ 33 :: 34 :: (tell post).flatMap pic ↔ _
  rw [tell_other (by decide)]
  exact ⟨fun q => (List.cons.inj (List.append_cancel_left q)).2, fun q => by rw [q]⟩
theorem rest_noq {rest : List Nat} (hn : NoQuote rest) (hs : ∀ c ∈ rest, c < 256) : NoQuote (rest.flatMap pic) ∧ (tell (rest.flatMap pic) = [] → rest = []) := by
  cases rest with
  | nil => exact ⟨noq_nil, fun _ => rfl⟩
  | cons c l =>
    have h1 : c ≠ 34 := hn c rfl
    by_cases h2 : c = 162
    · subst h2
      rw [List.flatMap_cons, show pic 162 = [33, 34] from rfl]
      refine ⟨fun d hd => ?_, fun q => ?_⟩
      · simp at hd
        omega
      · rw [List.cons_append, tell_other (by decide)] at q
        cases q
    · obtain ⟨hp1, hp2⟩ := pic_plain (hs c List.mem_cons_self) h1 h2
      rw [List.flatMap_cons]
      refine ⟨noq_app hp1 hp2, fun q => ?_⟩
      rw [tell_plain _ _ hp1] at q
      exact absurd (List.append_eq_nil_iff.mp q).1 hp2
theorem tail_same {post : List Nat} (hs : ∀ c ∈ post, c < 256) : tell (34 :: post.flatMap pic) = 34 :: (tell post).flatMap pic ↔ post.length % 2 = 1 ∧ post = List.replicate post.length 34 := by
  obtain ⟨r, rest, e, hn⟩ := runs34 post
  have hs' : ∀ c ∈ rest, c < 256 := fun c hc => hs c (by rw [e]; exact List.mem_append.mpr (.inr hc))
  obtain ⟨n1, n2⟩ := rest_noq hn hs'
  have e1 : 34 :: post.flatMap pic = List.replicate (r + 1) 34 ++ rest.flatMap pic := by
    rw [e, List.flatMap_append, pic_repl, List.replicate_succ, List.cons_append]
  rw [e1]
  rcases Nat.mod_two_eq_zero_or_one r with hr | hr
  · refine ⟨fun q => ?_, fun q => ?_⟩
    · exfalso
      rw [repl_one (by omega : (r + 1) % 2 = 1), tell_odd _ n1, e, repl_two hr, tell_even, List.flatMap_append, pic_repl] at q
      have := congrArg List.length q
      simp only [List.length_replicate, List.length_cons, List.length_append] at this
      omega
    · exfalso
      have hlen : post.length = r + rest.length := by rw [e]; simp
      have hr0 : rest = [] := by
        cases rest with
        | nil => rfl
        | cons c l =>
          have hc : c ∈ List.replicate post.length 34 := by rw [← q.2, e]; simp
          exact absurd (List.eq_of_mem_replicate hc) (hn c rfl)
      rw [hr0, List.length_nil] at hlen
      omega
  · rw [repl_two (by omega : (r + 1) % 2 = 0), tell_even]
    have e2 : tell post = List.replicate (r / 2) 34 := by rw [e, repl_one hr, tell_odd _ hn]
    rw [e2, pic_repl, show 34 :: List.replicate (r / 2) 34 = List.replicate (r / 2 + 1) 34 from rfl, show (r + 1) / 2 = r / 2 + 1 by omega]
    refine ⟨fun q => ?_, fun q => ?_⟩
    · have q' : List.replicate (r / 2 + 1) 34 ++ tell (rest.flatMap pic) = List.replicate (r / 2 + 1) 34 ++ [] := by rw [q, List.append_nil]
      have hr0 := n2 (List.append_cancel_left q')
      rw [hr0, List.append_nil] at e
      rw [e, List.length_replicate]
      exact ⟨hr, rfl⟩
    · have hr0 : rest = [] := by
        cases rest with
        | nil => rfl
        | cons c l =>
          have hc : c ∈ List.replicate post.length 34 := by rw [← q.2, e]; simp
          exact absurd (List.eq_of_mem_replicate hc) (hn c rfl)
      rw [hr0]
      show _ ++ tell [] = _
      rw [show tell [] = [] from rfl, List.append_nil]
theorem joinL_splitL (c : Nat) : ∀ l : List Nat, joinL c (splitL c l) = l
  | [] => rfl
  | a :: l => by
    have ih := joinL_splitL c l
    obtain ⟨p, ps, e⟩ := splitL_cons c 0 l
    rw [e] at ih
    rw [splitL, e]
    by_cases h : a = c
    · rw [if_pos h, joinL, ih, h]
      rfl
    · rw [if_neg h]
      cases ps with
      | nil =>
        rw [joinL] at ih
        rw [ih]
        rfl
      | cons q r =>
        rw [joinL] at ih
        show (a :: p) ++ c :: joinL c (q :: r) = _
        rw [List.cons_append, ih]
theorem mk104 {c : Nat} (h : mk c = 104) : c = 162 := by
  unfold mk at h
  split at h
  · cases h
  · split at h
    · assumption
    · cases h
theorem mk113 {c : Nat} (h : mk c = 113) : c = 34 := by
  unfold mk at h
  split at h
  · assumption
  · split at h
    · cases h
    · cases h
theorem no104 {l : List Nat} (h : (162 : Nat) ∉ l) : (104 : Nat) ∉ l.map mk := fun q => by
  obtain ⟨c, hc, e⟩ := List.mem_map.mp q
  exact h (mk104 e ▸ hc)
theorem split_len_co (x : Str) (c : Nat) : (Txt.split x ⟨#[c]⟩).length = (splitL c x.cps.toList).length := by rw [← split_co, List.length_map]
theorem head_co (x : Str) : (headOf x).cps.toList = (splitL 104 x.cps.toList).headD [] := by
  unfold headOf
  rw [show (Str.ofString "h" : Str) = ⟨#[104]⟩ from by decide, ← split_co]
  cases Txt.split x ⟨#[104]⟩ with
  | nil => decide
  | cons a b => rfl
theorem anyOdd_co (y : Str) : anyOdd (Txt.split y (Str.ofString " ")) = (splitL 32 y.cps.toList).any fun r => decide (r.length % 2 = 1) := by
  unfold anyOdd
  rw [show (Str.ofString " " : Str) = ⟨#[32]⟩ from by decide, ← split_co, List.any_map]
  rfl
theorem q_eq (y : Str) : (y == Txt.mul (Str.ofString "q") y.length) = decide (y.cps.toList = List.replicate y.cps.toList.length 113) := by
  rw [Bool.eq_iff_iff, beq_iff_eq, decide_eq_true_eq]
  have e : (Txt.mul (Str.ofString "q") y.length).cps.toList = List.replicate y.cps.toList.length 113 := by
    rw [show (Str.ofString "q" : Str) = ⟨#[113]⟩ from by decide, mul_one_list, len_co]
    rfl
  rw [← e]
  exact ⟨fun h => congrArg (fun s : Str => s.cps.toList) h, fun h => str_ext h⟩
theorem same_of (x : Str) (l : List Nat) (hx : x.cps.toList = l.map mk) (hs : ∀ c ∈ l, c < 256) : SameU l ↔ unctrlSame x = true := by
  unfold unctrlSame
  rw [show (Str.ofString "h" : Str) = ⟨#[104]⟩ from by decide, split_len_co, anyOdd_co, head_co, q_eq, len_co (restOf x), rest_co, hx]
  rcases split162 l with h | ⟨pre, post, e, hp⟩
  · rw [splitL_free (no104 h)]
    exact ⟨fun _ => by simp, fun _ => sameU_free hs h⟩
  · have hpre : ∀ c ∈ pre, c < 256 ∧ c ≠ 162 := fun c hc => ⟨hs c (by rw [e]; exact List.mem_append.mpr (.inl hc)), fun q => hp (q ▸ hc)⟩
    have hpost : ∀ c ∈ post, c < 256 := fun c hc => hs c (by rw [e]; exact List.mem_append.mpr (.inr (List.mem_cons_of_mem _ hc)))
    have em : l.map mk = pre.map mk ++ 104 :: post.map mk := by rw [e, List.map_append, List.map_cons]; rfl
    rw [em, splitL_cut _ (no104 hp), List.headD_cons, List.drop_succ_cons, List.drop_zero, joinL_splitL, List.length_map]
    have hlen : ¬ (pre.map mk :: splitL 104 (post.map mk)).length = 1 := by
      have := splitL_ne 104 (post.map mk)
      rw [List.length_cons]
      intro q
      exact this (List.length_eq_zero_iff.mp (by omega))
    rw [decide_eq_false hlen]
    show _ ↔ (false || oddp pre || _) = true
    cases ho : oddp pre with
    | true =>
      rw [e]
      exact ⟨fun _ => by simp, fun _ => sameU_odd hpre ho⟩
    | false =>
      rw [e, sameU_even hpre ho, tail_same hpost]
      simp only [Bool.or_self, Bool.false_or, Bool.and_eq_true, decide_eq_true_eq]
      refine and_congr_right fun _ => ⟨fun q => ?_, fun q => ?_⟩
      · rw [q, mk_repl, List.length_replicate]
      · refine List.eq_replicate_iff.mpr ⟨rfl, fun c hc => mk113 ?_⟩
        have hm : mk c ∈ List.replicate post.length 113 := by rw [← q]; exact List.mem_map_of_mem hc
        exact List.eq_of_mem_replicate hm
theorem lawT (ns : List Int) : (parseF (lineS unctrlF (replyT ns)) == lineS unctrlF (parseF (replyT ns))) = unctrlSame (marksT ns) := by
  rw [Bool.eq_iff_iff, ← same_of (marksT ns) (octN ns) (marks_co ns) (octN_small ns), beq_iff_eq]
  have e1 : (parseF (lineS unctrlF (replyT ns))).cps.toList = tell ((octN ns).flatMap pic) := by rw [parse_of (un_co ns)]
  have e2 : (lineS unctrlF (parseF (replyT ns))).cps.toList = (tell (octN ns)).flatMap pic := by
    rw [line_co, name_co]
    rfl
  unfold SameU
  rw [← e1, ← e2]
  exact ⟨fun h => by rw [h], fun h => str_ext h⟩
end Mine
end
/-! ## Join0201 -/
section
open PySem PySem.W PyProof PyProof.Rows
namespace Mine
theorem Con.mono {k k' : Nat} {w : World} {mean : ExcName → Option Value} {mg mb : Str → Option Value} {f : Addr} {vs : List Value} {Pre : List (Addr × Obj) → Prop} {R : Tok → Value} (h : k ≤ k') (C : Con k w mean mg mb f vs Pre R) : Con k' w mean mg mb f vs Pre R :=
  fun _ _ _ _ _ _ _ _ _ _ _ _ _ _ _ _ _ _ B F X N T hk hd hu hp ret => C _ _ _ _ _ _ _ _ _ _ _ _ _ _ _ _ _ _ B F X N T hk (by omega) (by omega) hp ret
theorem line_ascii (w : World) (mean : ExcName → Option Value) (mg mb : Str → Option Value) (x : Str) (tx : Tok) (hx : ∀ c ∈ x.cps.toList, c < 256) (hlen : x.length ≤ 1000) :
   Con 20 w mean mg mb 126 [.ref 67, .str x tx] (fun _ => True) (fun t => .str (lineS asciiF x) t) :=
  line_con w mean mg mb 67 asciiF (fun c t hc => Con.mono (by decide) (ascii_con w mean mg mb c hc t)) (by with_unfolding_all rfl) x tx hx hlen (fun _ => by unfold asciiF one; exact Nat.le_of_ble_eq_true rfl)
theorem line_ctrl (w : World) (mean : ExcName → Option Value) (mg mb : Str → Option Value) (x : Str) (tx : Tok) (hx : ∀ c ∈ x.cps.toList, c < 256) (hlen : x.length ≤ 1000) :
   Con 20 w mean mg mb 126 [.ref 74, .str x tx] (fun _ => True) (fun t => .str (lineS ctrlF x) t) :=
  line_con w mean mg mb 74 ctrlF (fun c t hc => Con.mono (by decide) (ctrl_con w mean mg mb c hc t)) (by with_unfolding_all rfl) x tx hx hlen (fun _ => by unfold ctrlF one; exact Nat.le_of_ble_eq_true rfl)
theorem line_alt (w : World) (mean : ExcName → Option Value) (mg mb : Str → Option Value) (x : Str) (tx : Tok) (hx : ∀ c ∈ x.cps.toList, c < 256) (hlen : x.length ≤ 1000) :
   Con 20 w mean mg mb 126 [.ref 81, .str x tx] (fun _ => True) (fun t => .str (lineS altF x) t) :=
  line_con w mean mg mb 81 altF (fun c t hc => Con.mono (by decide) (alt_con w mean mg mb c hc t)) (by with_unfolding_all rfl) x tx hx hlen (fun _ => by unfold altF one; exact Nat.le_of_ble_eq_true rfl)
theorem line_unctrl (w : World) (mean : ExcName → Option Value) (mg mb : Str → Option Value) (x : Str) (tx : Tok) (hx : ∀ c ∈ x.cps.toList, c < 256) (hlen : x.length ≤ 1000) :
   Con 20 w mean mg mb 126 [.ref 88, .str x tx] (fun _ => True) (fun t => .str (lineS unctrlF x) t) :=
  line_con w mean mg mb 88 unctrlF (fun c t hc => unctrl_con w mean mg mb c hc t) (by with_unfolding_all rfl) x tx hx hlen (fun c => by
    rw [len_co]
    unfold unctrlF
    exact Nat.le_trans (pic_len c).2 (by decide))
theorem parse_reply (w : World) (mean : ExcName → Option Value) (mg mb : Str → Option Value) (ns : List Int) (tx : Tok) : Con 20 w mean mg mb 46 [.str (replyT ns) tx] (fun _ => True) (fun t => .str (parseF (replyT ns)) t) := by
  have h := parse_con w mean mg mb _ tx (reply_starts ns)
  exact Con.mono (k := 10) (by decide) h
theorem parse_asc (w : World) (mean : ExcName → Option Value) (mg mb : Str → Option Value) (ns : List Int) (tx : Tok) : Con 20 w mean mg mb 46 [.str (lineS asciiF (replyT ns)) tx] (fun _ => True) (fun t => .str (parseF (lineS asciiF (replyT ns))) t) := by
  have h := parse_con w mean mg mb _ tx (asc_starts ns)
  exact Con.mono (k := 10) (by decide) h
theorem parse_un (w : World) (mean : ExcName → Option Value) (mg mb : Str → Option Value) (ns : List Int) (tx : Tok) : Con 20 w mean mg mb 46 [.str (lineS unctrlF (replyT ns)) tx] (fun _ => True) (fun t => .str (parseF (lineS unctrlF (replyT ns))) t) := by
  have h := parse_con w mean mg mb _ tx (un_starts ns)
  exact Con.mono (k := 10) (by decide) h
theorem told_oct (w : World) (mean : ExcName → Option Value) (mg mb : Str → Option Value) (l : Addr) (ns : List Int) : Con 20 w mean mg mb 109 [.ref l] (HasInts l (octsOf ns)) (fun t => .str (tellS (octsOf ns)) t) := told_con w mean mg mb l _ (octs_range ns) (octs_len1000 ns)
theorem told_pic (w : World) (mean : ExcName → Option Value) (mg mb : Str → Option Value) (l : Addr) (ns : List Int) : Con 20 w mean mg mb 109 [.ref l] (HasInts l ((octsOf ns).flatMap picI)) (fun t => .str (tellS ((octsOf ns).flatMap picI)) t) := told_con w mean mg mb l _ (pics_range ns) (pics_len1000 ns)
theorem told_sev (w : World) (mean : ExcName → Option Value) (mg mb : Str → Option Value) (l : Addr) (ns : List Int) : Con 20 w mean mg mb 109 [.ref l] (HasInts l ((octsOf ns).map fun c => c.fmod 128)) (fun t => .str (tellS ((octsOf ns).map fun c => c.fmod 128)) t) := told_con w mean mg mb l _ (sevs_range ns) (sevs_len ns)
theorem seven_marks (w : World) (mean : ExcName → Option Value) (mg mb : Str → Option Value) (ns : List Int) (tx : Tok) : Con 20 w mean mg mb 114 [.str (marksT ns) tx] (fun _ => True) (fun _ => .bool (sevenF (marksT ns))) := seven_con w mean mg mb _ tx (marks_len ns)
theorem same_marks (w : World) (mean : ExcName → Option Value) (mg mb : Str → Option Value) (ns : List Int) (tx : Tok) : Con 20 w mean mg mb 121 [.str (marksT ns) tx] (fun _ => True) (fun _ => .bool (unctrlSame (marksT ns))) := same_con w mean mg mb _ tx (marks_len ns)
theorem refused_alt (w : World) (mean : ExcName → Option Value) (mg mb : Str → Option Value) (ns : List Int) (tx : Tok) (l : Addr) : ConL w mean mg mb 131 [.str (lineS altF (replyT ns)) tx, .ref l] (HasInts l ((codesI ns).map fun c => c.fmod 128 + 128)) (fun _ => .bool true) := refused_con w mean mg mb _ tx l _ (alts_range ns) (alts_len ns) (alt_slice ns) (alt_co ns)
theorem refused_ctrl (w : World) (mean : ExcName → Option Value) (mg mb : Str → Option Value) (ns : List Int) (tx : Tok) (l : Addr) : ConL w mean mg mb 131 [.str (lineS ctrlF (replyT ns)) tx, .ref l] (HasInts l ((codesI ns).map fun c => c.fmod 32)) (fun _ => .bool true) := refused_con w mean mg mb _ tx l _ (ctrls_range ns) (ctrls_len ns) (ctrl_slice ns) (ctrl_co ns)
theorem ConL.use {w : World} {mean : ExcName → Option Value} {mg mb : Str → Option Value} {f : Addr} {vs : List Value} {Pre : List (Addr × Obj) → Prop} {R : Tok → Value} (C : ConL w mean mg mb f vs Pre R)
    {news : List (Addr × Obj)} {cn : Str} {cs : Scope} {a : Addr} {ccd : Value} {h₀ : Heap} {L : Addr} {m : Str → Option Value} {s : Shared} {Q E : Value → Shared → Prop}
    (B : Below callerA h₀ [] h₀) (F : Fr h₀ L s.heap m) (X : (hd0201.heap_39 w.params).In h₀) (N : News h₀ L s.heap news) (T : Top hd0201.view_39 (looseW hd0201.view_39 []) mean mg mb h₀) (hk : cs.kind = .function)
    (hp : Pre news)
    (ret : ∀ (t : Tok) (h' : Heap) (tk' : Nat), Fr h₀ L h' m → News h₀ L h' news → Q (R t) { s with heap := h', toks := tk' }) :
    wpAny (model PySem.Challenge.rw_il0201_01.row.prog w) (callerA.deeper (envOf cn cs L a ccd)) (call (.ref f) vs) Q E s :=
  C _ _ _ _ _ _ _ _ _ _ _ B F X N T hk hp ret
section
variable {prog : Program} {w : World} {A : Around} {E : Value → Shared → Prop} {s : Shared}
theorem join_marks {Q : Value → Shared → Prop} {D : Addr} {items : Array Value} {ns : List Int} {t : Tok} (hl : s.heap.IsList D items) (hi : StrsAre items.toList ((octsOf ns).map markI)) (h : ∀ t' k, Q (.str (marksT ns) t') { s with toks := k }) :
    wpAny (model prog w) A (call (.builtin "str.join") [.str (Str.ofString "") t, .ref D]) Q E s := join_listW hl hi (by decide) (marks_w ns) h
theorem add_reply {Q : Value → Shared → Prop} {ns : List Int} {t u : Tok} (h : ∀ t' k, Q (.str (replyT ns) t') { s with toks := k }) :
    wpAny (model prog w) A (binaryOp .Add (.str (Str.ofString "257 \"") t) (.str (Txt.join (Str.ofString "") ((octsOf ns).map chrI)) u)) Q E s := add_str h (reply_room ns)
end
theorem codes_add {prog : Program} {w : World} {A : Around} {E : Value → Shared → Prop} {s : Shared} {h₀ : Heap} {L a b : Addr} {m : Str → Option Value} {news : List (Addr × Obj)} {us : List Value} {n : Nat} {t1 t2 t3 t4 t5 : Tok} {ns : List Int} {Q : Value → Shared → Prop}
    (F : Fr h₀ L s.heap m) (N : News h₀ L s.heap news) (ha : (a, W.listOf #[Value.int 50 t1, Value.int 53 t2, Value.int 55 t3, Value.int 32 t4, Value.int 34 t5] 0) ∈ news) (hb : (b, W.listOf us.toArray n) ∈ news) (hj : IntsAre us (octsOf ns))
    (h : ∀ D us h', Fr h₀ L h' m → News h₀ L h' ((D, W.listOf (List.toArray us) 0) :: news) → (∀ p ∈ news, p.1 < D) → IntsAre us (codesI ns) → Q (.ref D) { s with heap := h' }) :
    wpAny (model prog w) A (binaryOp .Add (.ref a) (.ref b)) Q E s := by
  refine kmk_add_ints (vs := [Value.int 50 t1, Value.int 53 t2, Value.int 55 t3, Value.int 32 t4, Value.int 34 t5]) (ns := [50, 53, 55, 32, 34]) F N ⟨_, (N _ ha).1, rfl, 0, rfl⟩ ⟨_, (N _ hb).1, rfl, n, rfl⟩ (by repeat constructor) hj h ?_
  have := octs_len ns
  rw [sizeLine_eq]
  simp only [List.length_cons, List.length_nil]
  omega
theorem no_ne {α : Type} [BEq α] [LawfulBEq α] {x y : α} (h : x = y) : ¬ (x != y) = true := by
  rw [h]
  simp
theorem has_of {l : Addr} {ns : List Int} {news : List (Addr × Obj)} {vs : List Value} {n : Nat} (hm : (l, W.listOf vs.toArray n) ∈ news) (hi : IntsAre vs ns) : HasInts l ns news := ⟨vs, n, hm, hi⟩
end Mine
end
/-! ## the law -/
open PySem PySem.W PyProof PyProof.Rows Mine
section
local macro_rules | `(tactic| walk_at "call ref") => `(tactic| (k_here; (with_reducible show wpAny _ _ (call (Value.ref 95) [Value.ref _]) _ _ _); k_dflt (refine' ConI.use (octets_con _ _ _ _ _ _ _ (by assumption) (by omega)) ?k1 ?k2 ?k3 ?k4 ?k5 ?k6 ?k7 ?k8 ?k9 ?_; (case k1 => k_asm); (case k2 => k_asm); (case k3 => k_asm); (case k4 => k_asm); (case k5 => k_asm); (case k6 => first | exact rfl | assumption); (case k7 => first | decide | ktr_room); (case k8 => first | decide | ktr_units); (case k9 => first | assumption | k_asm)); intro D' us' n' h' tk' F' N' l1 hI'; (try k_lt l1); (try dsimp only); (try k_fold)))
local macro_rules | `(tactic| walk_at "call ref") => `(tactic| (k_here; (with_reducible show wpAny _ _ (call (Value.ref 102) [Value.int _ _]) _ _ _); k_dflt (refine' ConI.use (picture_con _ _ _ _ _ _ (octs_range _ _ (by assumption))) ?k1 ?k2 ?k3 ?k4 ?k5 ?k6 ?k7 ?k8 ?k9 ?_; (case k1 => k_asm); (case k2 => k_asm); (case k3 => k_asm); (case k4 => k_asm); (case k5 => k_asm); (case k6 => first | exact rfl | assumption); (case k7 => first | decide | ktr_room); (case k8 => first | decide | ktr_units); (case k9 => trivial)); intro D' us' n' h' tk' F' N' l1 hI'; (try k_lt l1); (try dsimp only); (try k_fold)))
local macro_rules | `(tactic| walk_at "call builtin:list.extend") => `(tactic| (k_here; k_dflt (refine' ext_ints ?F ?N ?b ?U ?i ?j ?z ?_; (case F => k_asm); (case N => k_asm); (case b => k_memK); (case U => k_upd); (case i => assumption); (case j => assumption); (case z => exact pics_room (by assumption) (by assumption) (octs_len _) (by assumption) (by assumption)); k_whole); intro h' F' N' hI'; (try k_sweep)))
local macro_rules | `(tactic| walk_at "eval ListComp") => `(tactic| (k_here; k_dflt (refine LCg.ListComp_U (F₀ := by k_asm) (by with_unfolding_all rfl) (by decide) (by rfl) (by decide) (by rfl) ?_)))
local macro_rules | `(tactic| walk_at "CompSrc") => `(tactic| (k_here; (with_reducible show LCg.CompSrc _ _ _ _ _ _ _ (PySem.Expr.IfExp _ _ _ _) _ _ _ _ _ _); k_dflt (refine LCg.CompSrc.ledger (by rfl) (by k_asm) (by k_asm) (by k_memK) (oc_size (by assumption)) ?_); intro g'; refine int_rest markI (by assumption) (fun c t I oI C oC D m₂ ys h tk E' hc hC hx' F' N' off ne => by k_steps; all_goals exact LCg.CompEnd.intro (by assumption) (by assumption) _ (fun _ hp => hp) off (Or.inr ⟨_, by k_memK, rfl, _, rfl⟩) ⟨rfl, _, by first | rw [mk_1 (by assumption)] | rw [mk_2 (by assumption) (by assumption)] | rw [mk_3 (by assumption) (by assumption)]⟩) (fun ys hys => ?_)))
local macro_rules | `(tactic| walk_at "CompSrc") => `(tactic| (k_here; (with_reducible show LCg.CompSrc _ _ _ _ _ _ _ (PySem.Expr.Call _ _ _ _) _ _ _ _ _ _); k_dflt (refine LCg.CompSrc.ledger (by rfl) (by k_asm) (by k_asm) (by k_memK) (oc_size (by assumption)) ?_); intro g'; refine int_rest chrI (by assumption) (fun c t I oI C oC D m₂ ys h tk E' hc hC hx' F' N' off ne => by (have hcr := octs_range _ _ hc); k_steps; all_goals exact LCg.CompEnd.intro (by assumption) (by assumption) _ (fun _ hp => hp) off (Or.inr ⟨_, by k_memK, rfl, _, rfl⟩) ⟨rfl, _, rfl⟩) (fun ys hys => ?_)))
local macro_rules | `(tactic| walk_at "call builtin:chr") => `(tactic| (refine chr_of_range (by omega) (by omega) ?_))
local macro_rules | `(tactic| walk_at "call builtin:str.join") => `(tactic| ((with_reducible show wpAny _ _ (call (Value.builtin "str.join") [Value.str _ _, Value.ref _]) _ _ _); (with_reducible rename StrsAre _ _ => hSA); first | (refine join_marks (News.isList (by k_asm) (by k_mem)) hSA ?_; intro _ _) | (refine join_listW (News.isList (by k_asm) (by k_mem)) hSA (by decide) (chrs_w _) ?_; intro _ _)))
local macro_rules | `(tactic| walk_at "call ref") => `(tactic| (k_here; (with_reducible show wpAny _ _ (call (Value.ref 46) [Value.str (replyT _) _]) _ _ _); k_dflt (refine' Con.use (parse_reply _ _ _ _ _ _) ?k1 ?k2 ?k3 ?k4 ?k5 ?k6 ?k7 ?k8 ?k9 ?_; (case k1 => k_asm); (case k2 => k_asm); (case k3 => k_asm); (case k4 => k_asm); (case k5 => k_asm); (case k6 => first | exact rfl | assumption); (case k7 => first | decide | ktr_room); (case k8 => first | decide | ktr_units); (case k9 => trivial)); intro t' h' tk' F' N'; (try dsimp only); (try k_fold)))
local macro_rules | `(tactic| walk_at "call ref") => `(tactic| (k_here; (with_reducible show wpAny _ _ (call (Value.ref 46) [Value.str (lineS asciiF _) _]) _ _ _); k_dflt (refine' Con.use (parse_asc _ _ _ _ _ _) ?k1 ?k2 ?k3 ?k4 ?k5 ?k6 ?k7 ?k8 ?k9 ?_; (case k1 => k_asm); (case k2 => k_asm); (case k3 => k_asm); (case k4 => k_asm); (case k5 => k_asm); (case k6 => first | exact rfl | assumption); (case k7 => first | decide | ktr_room); (case k8 => first | decide | ktr_units); (case k9 => trivial)); intro t' h' tk' F' N'; (try dsimp only); (try k_fold)))
local macro_rules | `(tactic| walk_at "call ref") => `(tactic| (k_here; (with_reducible show wpAny _ _ (call (Value.ref 46) [Value.str (lineS unctrlF _) _]) _ _ _); k_dflt (refine' Con.use (parse_un _ _ _ _ _ _) ?k1 ?k2 ?k3 ?k4 ?k5 ?k6 ?k7 ?k8 ?k9 ?_; (case k1 => k_asm); (case k2 => k_asm); (case k3 => k_asm); (case k4 => k_asm); (case k5 => k_asm); (case k6 => first | exact rfl | assumption); (case k7 => first | decide | ktr_room); (case k8 => first | decide | ktr_units); (case k9 => trivial)); intro t' h' tk' F' N'; (try dsimp only); (try k_fold)))
local macro_rules | `(tactic| walk_at "call ref") => `(tactic| (k_here; (with_reducible show wpAny _ _ (call (Value.ref 126) [Value.ref 67, Value.str (replyT _) _]) _ _ _); k_dflt (refine' Con.use (line_ascii _ _ _ _ _ _ (reply_small _) (reply_len _)) ?k1 ?k2 ?k3 ?k4 ?k5 ?k6 ?k7 ?k8 ?k9 ?_; (case k1 => k_asm); (case k2 => k_asm); (case k3 => k_asm); (case k4 => k_asm); (case k5 => k_asm); (case k6 => first | exact rfl | assumption); (case k7 => first | decide | ktr_room); (case k8 => first | decide | ktr_units); (case k9 => trivial)); intro t' h' tk' F' N'; (try dsimp only); (try k_fold)))
local macro_rules | `(tactic| walk_at "call ref") => `(tactic| (k_here; (with_reducible show wpAny _ _ (call (Value.ref 126) [Value.ref 74, Value.str (replyT _) _]) _ _ _); k_dflt (refine' Con.use (line_ctrl _ _ _ _ _ _ (reply_small _) (reply_len _)) ?k1 ?k2 ?k3 ?k4 ?k5 ?k6 ?k7 ?k8 ?k9 ?_; (case k1 => k_asm); (case k2 => k_asm); (case k3 => k_asm); (case k4 => k_asm); (case k5 => k_asm); (case k6 => first | exact rfl | assumption); (case k7 => first | decide | ktr_room); (case k8 => first | decide | ktr_units); (case k9 => trivial)); intro t' h' tk' F' N'; (try dsimp only); (try k_fold)))
local macro_rules | `(tactic| walk_at "call ref") => `(tactic| (k_here; (with_reducible show wpAny _ _ (call (Value.ref 126) [Value.ref 81, Value.str (replyT _) _]) _ _ _); k_dflt (refine' Con.use (line_alt _ _ _ _ _ _ (reply_small _) (reply_len _)) ?k1 ?k2 ?k3 ?k4 ?k5 ?k6 ?k7 ?k8 ?k9 ?_; (case k1 => k_asm); (case k2 => k_asm); (case k3 => k_asm); (case k4 => k_asm); (case k5 => k_asm); (case k6 => first | exact rfl | assumption); (case k7 => first | decide | ktr_room); (case k8 => first | decide | ktr_units); (case k9 => trivial)); intro t' h' tk' F' N'; (try dsimp only); (try k_fold)))
local macro_rules | `(tactic| walk_at "call ref") => `(tactic| (k_here; (with_reducible show wpAny _ _ (call (Value.ref 126) [Value.ref 88, Value.str (replyT _) _]) _ _ _); k_dflt (refine' Con.use (line_unctrl _ _ _ _ _ _ (reply_small _) (reply_len _)) ?k1 ?k2 ?k3 ?k4 ?k5 ?k6 ?k7 ?k8 ?k9 ?_; (case k1 => k_asm); (case k2 => k_asm); (case k3 => k_asm); (case k4 => k_asm); (case k5 => k_asm); (case k6 => first | exact rfl | assumption); (case k7 => first | decide | ktr_room); (case k8 => first | decide | ktr_units); (case k9 => trivial)); intro t' h' tk' F' N'; (try dsimp only); (try k_fold)))
local macro_rules | `(tactic| walk_at "call ref") => `(tactic| (k_here; (with_reducible show wpAny _ _ (call (Value.ref 126) [Value.ref 67, Value.str (parseF (replyT _)) _]) _ _ _); k_dflt (refine' Con.use (line_ascii _ _ _ _ _ _ (name_small _) (name_len _)) ?k1 ?k2 ?k3 ?k4 ?k5 ?k6 ?k7 ?k8 ?k9 ?_; (case k1 => k_asm); (case k2 => k_asm); (case k3 => k_asm); (case k4 => k_asm); (case k5 => k_asm); (case k6 => first | exact rfl | assumption); (case k7 => first | decide | ktr_room); (case k8 => first | decide | ktr_units); (case k9 => trivial)); intro t' h' tk' F' N'; (try dsimp only); (try k_fold)))
local macro_rules | `(tactic| walk_at "call ref") => `(tactic| (k_here; (with_reducible show wpAny _ _ (call (Value.ref 126) [Value.ref 88, Value.str (parseF (replyT _)) _]) _ _ _); k_dflt (refine' Con.use (line_unctrl _ _ _ _ _ _ (name_small _) (name_len _)) ?k1 ?k2 ?k3 ?k4 ?k5 ?k6 ?k7 ?k8 ?k9 ?_; (case k1 => k_asm); (case k2 => k_asm); (case k3 => k_asm); (case k4 => k_asm); (case k5 => k_asm); (case k6 => first | exact rfl | assumption); (case k7 => first | decide | ktr_room); (case k8 => first | decide | ktr_units); (case k9 => trivial)); intro t' h' tk' F' N'; (try dsimp only); (try k_fold)))
local macro_rules | `(tactic| walk_at "call ref") => `(tactic| (k_here; (with_reducible show wpAny _ _ (call (Value.ref 109) [Value.ref _]) _ _ _); k_dflt (refine' Con.use (told_sev _ _ _ _ _ _) ?k1 ?k2 ?k3 ?k4 ?k5 ?k6 ?k7 ?k8 ?k9 ?_; (case k1 => k_asm); (case k2 => k_asm); (case k3 => k_asm); (case k4 => k_asm); (case k5 => k_asm); (case k6 => first | exact rfl | assumption); (case k7 => first | decide | ktr_room); (case k8 => first | decide | ktr_units); (case k9 => exact has_of (by k_memK) (by assumption))); intro t' h' tk' F' N'; (try dsimp only); (try k_fold)))
local macro_rules | `(tactic| walk_at "call ref") => `(tactic| (k_here; (with_reducible show wpAny _ _ (call (Value.ref 109) [Value.ref _]) _ _ _); k_dflt (refine' Con.use (told_pic _ _ _ _ _ _) ?k1 ?k2 ?k3 ?k4 ?k5 ?k6 ?k7 ?k8 ?k9 ?_; (case k1 => k_asm); (case k2 => k_asm); (case k3 => k_asm); (case k4 => k_asm); (case k5 => k_asm); (case k6 => first | exact rfl | assumption); (case k7 => first | decide | ktr_room); (case k8 => first | decide | ktr_units); (case k9 => exact has_of (by k_memK) (by assumption))); intro t' h' tk' F' N'; (try dsimp only); (try k_fold)))
local macro_rules | `(tactic| walk_at "call ref") => `(tactic| (k_here; (with_reducible show wpAny _ _ (call (Value.ref 109) [Value.ref _]) _ _ _); k_dflt (refine' Con.use (told_oct _ _ _ _ _ _) ?k1 ?k2 ?k3 ?k4 ?k5 ?k6 ?k7 ?k8 ?k9 ?_; (case k1 => k_asm); (case k2 => k_asm); (case k3 => k_asm); (case k4 => k_asm); (case k5 => k_asm); (case k6 => first | exact rfl | assumption); (case k7 => first | decide | ktr_room); (case k8 => first | decide | ktr_units); (case k9 => exact has_of (by k_memK) (by assumption))); intro t' h' tk' F' N'; (try dsimp only); (try k_fold)))
local macro_rules | `(tactic| walk_at "call ref") => `(tactic| (k_here; (with_reducible show wpAny _ _ (call (Value.ref 114) [Value.str (marksT _) _]) _ _ _); k_dflt (refine' Con.use (seven_marks _ _ _ _ _ _) ?k1 ?k2 ?k3 ?k4 ?k5 ?k6 ?k7 ?k8 ?k9 ?_; (case k1 => k_asm); (case k2 => k_asm); (case k3 => k_asm); (case k4 => k_asm); (case k5 => k_asm); (case k6 => first | exact rfl | assumption); (case k7 => first | decide | ktr_room); (case k8 => first | decide | ktr_units); (case k9 => trivial)); intro t' h' tk' F' N'; (try dsimp only); (try k_fold)))
local macro_rules | `(tactic| walk_at "call ref") => `(tactic| (k_here; (with_reducible show wpAny _ _ (call (Value.ref 121) [Value.str (marksT _) _]) _ _ _); k_dflt (refine' Con.use (same_marks _ _ _ _ _ _) ?k1 ?k2 ?k3 ?k4 ?k5 ?k6 ?k7 ?k8 ?k9 ?_; (case k1 => k_asm); (case k2 => k_asm); (case k3 => k_asm); (case k4 => k_asm); (case k5 => k_asm); (case k6 => first | exact rfl | assumption); (case k7 => first | decide | ktr_room); (case k8 => first | decide | ktr_units); (case k9 => trivial)); intro t' h' tk' F' N'; (try dsimp only); (try k_fold)))
local macro_rules | `(tactic| walk_at "call ref") => `(tactic| (k_here; (with_reducible show wpAny _ _ (call (Value.ref 131) [Value.str (lineS altF _) _, Value.ref _]) _ _ _); k_dflt (refine' ConL.use (refused_alt _ _ _ _ _ _ _) ?k1 ?k2 ?k3 ?k4 ?k5 ?k6 ?k9 ?_; (case k1 => k_asm); (case k2 => k_asm); (case k3 => k_asm); (case k4 => k_asm); (case k5 => k_asm); (case k6 => first | exact rfl | assumption); (case k9 => exact has_of (by k_memK) (by assumption))); intro t' h' tk' F' N'; (try dsimp only); (try k_fold)))
local macro_rules | `(tactic| walk_at "call ref") => `(tactic| (k_here; (with_reducible show wpAny _ _ (call (Value.ref 131) [Value.str (lineS ctrlF _) _, Value.ref _]) _ _ _); k_dflt (refine' ConL.use (refused_ctrl _ _ _ _ _ _ _) ?k1 ?k2 ?k3 ?k4 ?k5 ?k6 ?k9 ?_; (case k1 => k_asm); (case k2 => k_asm); (case k3 => k_asm); (case k4 => k_asm); (case k5 => k_asm); (case k6 => first | exact rfl | assumption); (case k9 => exact has_of (by k_memK) (by assumption))); intro t' h' tk' F' N'; (try dsimp only); (try k_fold)))
local macro_rules | `(tactic| walk_at "binaryOp Add str str") => `(tactic| (refine add_reply ?_; intro _ _))
local macro_rules | `(tactic| walk_at "CompSrc") => `(tactic| (k_here; (with_reducible show LCg.CompSrc _ _ _ _ _ _ _ (PySem.Expr.BinOp (PySem.Expr.Name _ _) PySem.Operator.Mod (PySem.Expr.Constant (PySem.Const.int 128) _ _) _) _ _ _ _ _ _); k_dflt (refine LCg.CompSrc.ledger (by rfl) (by k_asm) (by k_asm) (by k_memK) (oc_size (by assumption)) ?_); intro g'; refine ii_rest (fun c => c.fmod 128) (by assumption) (fun c t I oI C oC D m₂ ys h tk E' hc hC hx' F' N' off ne => by k_steps; all_goals exact LCg.CompEnd.intro (by assumption) (by assumption) _ (fun _ hp => hp) off (Or.inr ⟨_, by k_memK, rfl, _, rfl⟩) ⟨rfl, _, rfl⟩) (fun ys hys => ?_)))
local macro_rules | `(tactic| walk_at "CompSrc") => `(tactic| (k_here; (with_reducible show LCg.CompSrc _ _ _ _ _ _ _ (PySem.Expr.BinOp (PySem.Expr.BinOp _ _ _ _) PySem.Operator.Add _ _) _ _ _ _ _ _); k_dflt (refine LCg.CompSrc.ledger (by rfl) (by k_asm) (by k_asm) (by k_memK) (co_size (by assumption)) ?_); intro g'; refine ii_rest (fun c => c.fmod 128 + 128) (by assumption) (fun c t I oI C oC D m₂ ys h tk E' hc hC hx' F' N' off ne => by k_steps; all_goals exact LCg.CompEnd.intro (by assumption) (by assumption) _ (fun _ hp => hp) off (Or.inr ⟨_, by k_memK, rfl, _, rfl⟩) ⟨rfl, _, rfl⟩) (fun ys hys => ?_)))
local macro_rules | `(tactic| walk_at "CompSrc") => `(tactic| (k_here; (with_reducible show LCg.CompSrc _ _ _ _ _ _ _ (PySem.Expr.BinOp (PySem.Expr.Name _ _) PySem.Operator.Mod (PySem.Expr.Constant (PySem.Const.int 32) _ _) _) _ _ _ _ _ _); k_dflt (refine LCg.CompSrc.ledger (by rfl) (by k_asm) (by k_asm) (by k_memK) (co_size (by assumption)) ?_); intro g'; refine ii_rest (fun c => c.fmod 32) (by assumption) (fun c t I oI C oC D m₂ ys h tk E' hc hC hx' F' N' off ne => by k_steps; all_goals exact LCg.CompEnd.intro (by assumption) (by assumption) _ (fun _ hp => hp) off (Or.inr ⟨_, by k_memK, rfl, _, rfl⟩) ⟨rfl, _, rfl⟩) (fun ys hys => ?_)))
local macro_rules | `(tactic| walk_at "ite") => `(tactic| (refine ite_neg (no_ne (lawN _)) ?_))
local macro_rules | `(tactic| walk_at "ite") => `(tactic| (refine ite_neg (no_ne (lawU _)) ?_))
local macro_rules | `(tactic| walk_at "ite") => `(tactic| (refine ite_neg (no_ne (lawA _)) ?_))
local macro_rules | `(tactic| walk_at "ite") => `(tactic| (refine ite_neg (no_ne (lawS _)) ?_))
local macro_rules | `(tactic| walk_at "ite") => `(tactic| (refine ite_neg (no_ne (lawT _)) ?_))
local macro_rules | `(tactic| walk_at "binaryOp Add ref ref") => `(tactic| (k_here; k_dflt (refine' codes_add ?F ?N ?a ?b ?j ?_; (case F => k_asm); (case N => k_asm); (case a => k_memK); (case b => k_memK); (case j => assumption); k_whole); intro D' ws' h' F' N' l1 hI'; (try k_lt l1); (try dsimp only)))
set_option maxRecDepth 100000 in
set_option maxHeartbeats 8000000 in
theorem PySem.Challenge.cw_il0201_01_holds : PySem.Challenge.rw_il0201_01.Holds := by
  refine hd0201 ?_
  k_with_none
  w_top off
  k_with "state" => first | exact rfl | exact pics_turn (by assumption)
  k_with "pyIter ref" => k_state (fun pre (ps : List Int) => ps = pre.flatMap picI) "pictures"
  k_go0
  (all_goals try k_fold)
  repeat' ((fail_if_success (with_reducible show wpAny _ _ (eval (PySem.Expr.ListComp _ _ _ _) _) _ _ _)); first | (k_unfold; (try dsimp only)) | walk1 | (dsimp only; walk1))
  subst kInv
  k_steps
end
