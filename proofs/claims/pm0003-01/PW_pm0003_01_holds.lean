import PyProof.Rows.All
import Wide.All
import OpenK.AllK
import Wide.FinOn
import PySem.Challenge.RW_pm0003_01
open PySem PySem.W PyProof.Rows
set_option Elab.async false
set_option compiler.extract_closed false
namespace Mine
def word : Nat → List UInt8
  | 0 => []
  | n+1 => word ((n+1)/16) ++ [UInt8.ofNat (65 + (n+1) % 16)]
decreasing_by omega
theorem word_step {n : Nat} (h : n ≠ 0) : word n = word (n / 16) ++ [UInt8.ofNat (65 + n % 16)] := by
  cases n with
  | zero => exact absurd rfl h
  | succ n => rw [word]
theorem word_zero : word 0 = [] := by rw [word]
/-- the digits as the law writes them: k of them, highest first -/
def lawDigits (x : Int) : Nat → List Int
  | 0 => []
  | k + 1 => (65 + (x.fdiv (16 ^ k)).fmod 16) :: lawDigits x k
theorem lawDigits_word (x : Nat) : ∀ k, x < 16 ^ k → (k = 0 ∨ 16 ^ (k - 1) ≤ x) → (lawDigits (x : Int) k).map (fun n => n.toNat.toUInt8) = word x := by
  have gen : ∀ (k x : Nat), (lawDigits (x : Int) (k + 1)).map (fun n => n.toNat.toUInt8) = (lawDigits ((x / 16 : Nat) : Int) k).map (fun n => n.toNat.toUInt8) ++ [UInt8.ofNat (65 + x % 16)] := by
    intro k
    induction k with
    | zero =>
      intro x
      simp only [lawDigits, List.map_cons, List.map_nil, List.nil_append, List.cons.injEq, and_true]
      have : (65 + ((x : Int).fdiv (16 ^ 0)).fmod 16).toNat = 65 + x % 16 := by
        rw [Int.fdiv_eq_ediv_of_nonneg _ (by decide), Int.fmod_eq_emod_of_nonneg _ (by decide)]
        simp only [Int.pow_zero, Int.ediv_one]; omega
      rw [this]
    | succ k ih =>
      intro x
      have e : lawDigits (x : Int) (k + 1 + 1) = (65 + ((x : Int).fdiv (16 ^ (k + 1))).fmod 16) :: lawDigits (x : Int) (k + 1) := rfl
      have e2 : lawDigits ((x / 16 : Nat) : Int) (k + 1) = (65 + (((x / 16 : Nat) : Int).fdiv (16 ^ k)).fmod 16) :: lawDigits ((x / 16 : Nat) : Int) k := rfl
      rw [e, e2, List.map_cons, List.map_cons, ih, List.cons_append]
      congr 3
      have p : (0 : Int) ≤ 16 ^ k := Int.pow_nonneg (by decide)
      have p2 : (0 : Int) ≤ 16 ^ (k + 1) := Int.pow_nonneg (by decide)
      rw [Int.fdiv_eq_ediv_of_nonneg _ p, Int.fdiv_eq_ediv_of_nonneg _ p2, Int.pow_succ, Int.mul_comm, ← Int.ediv_ediv_of_nonneg (by decide)]
      rfl
  intro k
  induction k generalizing x with
  | zero => intro h _; simp at h; subst h; simp [lawDigits, word_zero]
  | succ k ih =>
    intro h h2
    rcases h2 with h2 | h2
    · cases h2
    · have hx : x ≠ 0 := by
        have : 0 < 16 ^ k := Nat.pow_pos (by decide)
        simp at h2; omega
      rw [gen, word_step hx, ih (x / 16) ?_ ?_]
      · rw [Nat.pow_succ] at h; omega
      · cases k with
        | zero => exact .inl rfl
        | succ k =>
          right
          simp at h2 ⊢
          rw [Nat.pow_succ] at h2; omega
/-- the word of x, of k figures -/
theorem lw_word {x : Int} (h0 : 0 ≤ x) (k : Nat) (h1 : ¬ 16 ^ k ≤ x) (h2 : k = 0 ∨ 16 ^ (k - 1) ≤ x) : byteArr (lawDigits x k) = (word x.natAbs).toArray := by
  obtain ⟨n, rfl⟩ := Int.eq_ofNat_of_zero_le h0
  unfold byteArr
  rw [lawDigits_word n k ?_ ?_]
  · rfl
  · have : ((16 ^ k : Nat) : Int) = 16 ^ k := by simp
    omega
  · refine h2.imp id fun h => ?_
    have : ((16 ^ (k - 1) : Nat) : Int) = 16 ^ (k - 1) := by simp
    omega
theorem isList_of {h₀ h : Heap} {L D : Addr} {news : List (Addr × Obj)} {us : List Value} {c : Nat} (N : News h₀ L h news) (hm : (D, listOf us.toArray c) ∈ news) : h.IsList D us.toArray := ⟨_, (N _ hm).1, rfl, c, rfl⟩
section
variable {h₀ h' : Heap} {L : Addr} {m : Str → Option Value} {news news' : List (Addr × Obj)} {s : Shared} {Q : Value → Shared → Prop} {t : Tok} {tk' : Nat}
theorem ret_y {x y : Array UInt8} (hret : ∀ (t : Tok) (h' : Heap) (tk' : Nat), Fr h₀ L h' m → News h₀ L h' news → Q (.bytes x t) { s with heap := h', toks := tk' }) (e : y = x) (F : Fr h₀ L h' m) (N : News h₀ L h' news') (sub : ∀ p ∈ news, p ∈ news') : Q (.bytes y t) { s with heap := h', toks := tk' } := by
  subst e
  exact hret t h' tk' F (cb_drop N sub)
theorem ret_i {x y : Int} (hret : ∀ (t : Tok) (h' : Heap) (tk' : Nat), Fr h₀ L h' m → News h₀ L h' news → Q (.int x t) { s with heap := h', toks := tk' }) (e : y = x) (F : Fr h₀ L h' m) (N : News h₀ L h' news') (sub : ∀ p ∈ news, p ∈ news') : Q (.int y t) { s with heap := h', toks := tk' } := by
  subst e
  exact hret t h' tk' F (cb_drop N sub)
end
end Mine
namespace Mine
def p257 : List Nat → List Nat
  | [] => []
  | [c] => if c = 34 then [] else [c]
  | c :: d :: r => if c = 34 then (if d = 34 then 34 :: p257 r else []) else c :: p257 (d :: r)
theorem p257_other {c : Nat} (h : c ≠ 34) (r : List Nat) : p257 (c :: r) = c :: p257 r := by
  cases r with
  | nil => simp [p257, h]
  | cons d r => simp [p257, h]
theorem p257_pair (r : List Nat) : p257 (34 :: 34 :: r) = 34 :: p257 r := by simp [p257]
theorem p257_end : p257 [34] = [] := by simp [p257]
theorem p257_stop {d : Nat} (h : d ≠ 34) (r : List Nat) : p257 (34 :: d :: r) = [] := by simp [p257, h]
def PEq (x d : Str) (i : Int) : Prop := d.cps.toList ++ p257 (x.cps.toList.drop i.toNat) = p257 (x.cps.toList.drop 5)
theorem p_start {x : Str} {a b c d e : Nat} {body : List Nat} (h : x.cps.toList = a :: b :: c :: d :: e :: body ∧ x.length ≤ 100000) : 5 ≤ (5 : Int) ∧ (5 : Int) ≤ (x.length : Int) ∧ ((Str.ofString "").length : Int) ≤ 5 ∧ x.length ≤ 100000 ∧ PEq x (Str.ofString "") 5 := by
  refine ⟨by decide, ?_, by decide, h.2, by simp [PEq, show (Str.ofString "").cps = #[] from by decide]⟩
  have := congrArg List.length h.1
  have e : x.length = x.cps.size := rfl
  simp at this; omega
theorem slice_nat (x : Str) {a b : Nat} (hab : a ≤ b) (hb : b ≤ x.length) : Txt.slice x (some (a : Int)) (some (b : Int)) = ⟨((x.cps.toList.drop a).take (b - a)).toArray⟩ := StrLaws.sliceText_nat x hab hb
theorem slice_3 {x : Str} {a b c d e : Nat} {body : List Nat} (h : x.cps.toList = a :: b :: c :: d :: e :: body) : Txt.slice x none (some 3) = ⟨#[a, b, c]⟩ := by
  have e1 : Txt.slice x none (some 3) = Txt.slice x (some ((0 : Nat) : Int)) (some ((3 : Nat) : Int)) := by
    unfold Txt.slice
    rw [StrLaws.sliceIdx_none_lo]; rfl
  have hl : 5 ≤ x.length := by
    have := congrArg List.length h
    have e : x.length = x.cps.size := rfl
    simp at this; omega
  rw [e1, slice_nat x (by omega) (by omega), h]
  rfl
theorem slice_35 {x : Str} {a b c d e : Nat} {body : List Nat} (h : x.cps.toList = a :: b :: c :: d :: e :: body) : Txt.slice x (some 3) (some 5) = ⟨#[d, e]⟩ := by
  have hl : 5 ≤ x.length := by
    have := congrArg List.length h
    have e : x.length = x.cps.size := rfl
    simp at this; omega
  have := slice_nat x (a := 3) (b := 5) (by omega) (by omega)
  rw [h] at this
  exact this
theorem item_q {x : Str} {i : Int} (h0 : 0 ≤ i) (h1 : i < x.length) : Txt.item x i = ⟨#[x.cps.getD i.toNat 0]⟩ ∧ x.cps.toList.drop i.toNat = x.cps.getD i.toNat 0 :: x.cps.toList.drop (i + 1).toNat := by
  refine ⟨item_meets ⟨h0, h1⟩, ?_⟩
  have e : x.length = x.cps.size := rfl
  have e2 : (i + 1).toNat = i.toNat + 1 := by omega
  have hlt : i.toNat < x.cps.toList.length := by simp; omega
  rw [e2, List.drop_eq_getElem_cons hlt]
  congr 1
  have h3 : i.toNat < x.cps.size := by omega
  simp [h3]
theorem quote_eq : Str.ofString "\"" = ⟨#[34]⟩ := by decide
theorem item_is {x : Str} {i : Int} (h0 : 0 ≤ i) (h1 : i < x.length) (h : (Txt.item x i == Str.ofString "\"") = true) : x.cps.getD i.toNat 0 = 34 := by
  rw [(item_q h0 h1).1, quote_eq] at h
  simpa using h
theorem item_not {x : Str} {i : Int} (h0 : 0 ≤ i) (h1 : i < x.length) (h : (Txt.item x i == Str.ofString "\"") = false) : x.cps.getD i.toNat 0 ≠ 34 := by
  rw [(item_q h0 h1).1, quote_eq] at h
  simpa using h
theorem item_nis {x : Str} {i : Int} (h0 : 0 ≤ i) (h1 : i < x.length) (h : (Txt.item x i != Str.ofString "\"") = true) : x.cps.getD i.toNat 0 ≠ 34 := item_not h0 h1 (by simpa [bne] using h)
theorem item_nnot {x : Str} {i : Int} (h0 : 0 ≤ i) (h1 : i < x.length) (h : (Txt.item x i != Str.ofString "\"") = false) : x.cps.getD i.toNat 0 = 34 := item_is h0 h1 (by simpa [bne] using h)
theorem cat_item {x d : Str} {i : Int} (h0 : 0 ≤ i) (h1 : i < x.length) : (d ++ Txt.item x i).cps.toList = d.cps.toList ++ [x.cps.getD i.toNat 0] ∧ (d ++ Txt.item x i).length = d.length + 1 := by
  rw [(item_q h0 h1).1]
  refine ⟨by simp [Str.cps_append], by simp [Str.length_append]; rfl⟩
/-- a pair of marks is taken -/
theorem p_pair {x d : Str} {i : Int} (h0 : 5 ≤ i) (_ : i ≤ (x.length : Int)) (hd : (d.length : Int) ≤ i) (hx : x.length ≤ 100000) (h : PEq x d i) (h1 : i < (x.length : Int)) (q1 : (Txt.item x i == Str.ofString "\"") = true)
    (h2 : ¬ (x.length : Int) ≤ i + 1) (q2 : (Txt.item x (i + 1) != Str.ofString "\"") = false) : 5 ≤ i + 1 + 1 ∧ i + 1 + 1 ≤ (x.length : Int) ∧ ((d ++ Txt.item x i).length : Int) ≤ i + 1 + 1 ∧ x.length ≤ 100000 ∧ PEq x (d ++ Txt.item x i) (i + 1 + 1) := by
  obtain ⟨c1, c2⟩ := cat_item (d := d) (x := x) (i := i) (by omega) h1
  have a := item_is (by omega) h1 q1
  have b := item_nnot (by omega) (by omega) q2
  have e1 := (item_q (x := x) (i := i) (by omega) h1).2
  have e2 := (item_q (x := x) (i := i + 1) (by omega) (by omega)).2
  refine ⟨by omega, by omega, by omega, hx, ?_⟩
  unfold PEq at h ⊢
  rw [← h, c1, e1, e2, a, b, p257_pair]
  simp
theorem p_other {x d : Str} {i : Int} (h0 : 5 ≤ i) (_ : i ≤ (x.length : Int)) (hd : (d.length : Int) ≤ i) (hx : x.length ≤ 100000) (h : PEq x d i) (h1 : i < (x.length : Int)) (q1 : (Txt.item x i == Str.ofString "\"") = false) :
    5 ≤ i + 1 ∧ i + 1 ≤ (x.length : Int) ∧ ((d ++ Txt.item x i).length : Int) ≤ i + 1 ∧ x.length ≤ 100000 ∧ PEq x (d ++ Txt.item x i) (i + 1) := by
  obtain ⟨c1, c2⟩ := cat_item (d := d) (x := x) (i := i) (by omega) h1
  have a := item_not (by omega) h1 q1
  have e1 := (item_q (x := x) (i := i) (by omega) h1).2
  refine ⟨by omega, by omega, by omega, hx, ?_⟩
  unfold PEq at h ⊢
  rw [← h, c1, e1, p257_other a]
  simp
theorem p_out {x d : Str} {i : Int} (h0 : 5 ≤ i) (h : PEq x d i) (h1 : ¬ i < (x.length : Int)) : d = ⟨(p257 (x.cps.toList.drop 5)).toArray⟩ := by
  unfold PEq at h
  have e : x.cps.toList.drop i.toNat = [] := List.drop_eq_nil_of_le (by have e : x.length = x.cps.size := rfl; simp; omega)
  rw [e] at h
  rw [← h]; simp [p257]
theorem p_brk1 {x d : Str} {i : Int} (h0 : 5 ≤ i) (h : PEq x d i) (h1 : i < (x.length : Int)) (q1 : (Txt.item x i == Str.ofString "\"") = true) (h2 : (x.length : Int) ≤ i + 1) : d = ⟨(p257 (x.cps.toList.drop 5)).toArray⟩ := by
  unfold PEq at h
  have a := item_is (by omega) h1 q1
  have e1 := (item_q (x := x) (i := i) (by omega) h1).2
  have e : x.cps.toList.drop (i + 1).toNat = [] := List.drop_eq_nil_of_le (by have e : x.length = x.cps.size := rfl; simp; omega)
  rw [e1, e, a, p257_end] at h
  rw [← h]; simp
theorem p_brk2 {x d : Str} {i : Int} (h0 : 5 ≤ i) (h : PEq x d i) (h1 : i < (x.length : Int)) (q1 : (Txt.item x i == Str.ofString "\"") = true) (h2 : ¬ (x.length : Int) ≤ i + 1) (q2 : (Txt.item x (i + 1) != Str.ofString "\"") = true) : d = ⟨(p257 (x.cps.toList.drop 5)).toArray⟩ := by
  unfold PEq at h
  have a := item_is (by omega) h1 q1
  have b := item_nis (by omega) (by omega) q2
  have e1 := (item_q (x := x) (i := i) (by omega) h1).2
  have e2 := (item_q (x := x) (i := i + 1) (by omega) (by omega)).2
  rw [e1, e2, a, p257_stop b] at h
  rw [← h]; simp
theorem code_eq : Str.ofString "257" = ⟨#[50, 53, 55]⟩ := by decide
theorem open_eq : Str.ofString " \"" = ⟨#[32, 34]⟩ := by decide
theorem none_eq : Str.ofString "" = ⟨#[]⟩ := by decide
theorem p_code {x : Str} {d e : Nat} {body : List Nat} (h : x.cps.toList = 50 :: 53 :: 55 :: d :: e :: body ∧ x.length ≤ 100000) (q : (Txt.slice x none (some 3) != Str.ofString "257") = true) : False := by
  rw [slice_3 h.1, code_eq] at q
  simp at q
def told (d e : Nat) (body : List Nat) : Str := if d = 32 ∧ e = 34 then ⟨(p257 body).toArray⟩ else ⟨#[]⟩
theorem p_none {x : Str} {d e : Nat} {body : List Nat} (h : x.cps.toList = 50 :: 53 :: 55 :: d :: e :: body ∧ x.length ≤ 100000) (q : (Txt.slice x (some 3) (some 5) != Str.ofString " \"") = true) : Str.ofString "" = told d e body := by
  rw [slice_35 h.1, open_eq] at q
  simp only [bne_iff_ne, ne_eq, Str.mk.injEq] at q
  unfold told
  rw [if_neg, none_eq]
  rintro ⟨rfl, rfl⟩
  exact q rfl
theorem p_told {x y : Str} {d e : Nat} {body : List Nat} (h : x.cps.toList = 50 :: 53 :: 55 :: d :: e :: body ∧ x.length ≤ 100000) (q : (Txt.slice x (some 3) (some 5) != Str.ofString " \"") = false) (hy : y = ⟨(p257 (x.cps.toList.drop 5)).toArray⟩) : y = told d e body := by
  rw [slice_35 h.1, open_eq] at q
  have q' : #[d, e] = #[32, 34] := by simpa using q
  have q'' : d = 32 ∧ e = 34 := by simpa using q'
  unfold told
  rw [if_pos q'', hy, h.1]
  rfl
end Mine
namespace Mine
/-- the numbers that the law adds up for a place: those of the first j -/
def fsel (sz : Int) (ns : List Int) (p : Int) (n : Nat) : Nat → List Int
  | 0 => []
  | j + 1 => fsel sz ns p n j ++ (if Builtin.bitAnd (0 + (j : Int)) n = 0 + (j : Int) then [ns.getD ((p - (0 + (j : Int))).fmod sz).toNat 0] else [])
def fodd (sz : Int) (ns : List Int) (p : Int) (n : Nat) : Prop := (fsel sz ns p n (n + 1)).sum.fmod 2 = 1
/-- the first odd place from i on, of k that are left -/
def fofrom (sz : Int) (ns : List Int) (n : Nat) : Nat → Int → Int
  | 0, i => i
  | k + 1, i => if (fsel sz ns i n (n + 1)).sum.fmod 2 = 1 then i else fofrom sz ns n k (i + 1)
theorem fsel_yes {sz : Int} {ns : List Int} {p : Int} {n j : Nat} {ys : List Value} {t : Tok} (h : IntsAre ys (fsel sz ns p n j)) (hb : Builtin.bitAnd (0 + (j : Int)) n = 0 + (j : Int)) :
    IntsAre (ys ++ [Value.int (ns.getD ((p - (0 + (j : Int))).fmod sz).toNat 0) t]) (fsel sz ns p n (j + 1)) := by
  rw [fsel, if_pos hb]
  exact h.append (.cons _ _ .nil)
theorem fsel_no {sz : Int} {ns : List Int} {p : Int} {n j : Nat} {ys : List Value} (h : IntsAre ys (fsel sz ns p n j)) (hb : Builtin.bitAnd (0 + (j : Int)) n ≠ 0 + (j : Int)) :
    IntsAre ys (fsel sz ns p n (j + 1)) := by
  rw [fsel, if_neg hb, List.append_nil]
  exact h
theorem fo_yes {sz : Int} {ns : List Int} {n k : Nat} {i : Int} (h : (fsel sz ns i n (n + 1)).sum.fmod 2 = 1) : fofrom sz ns n (k + 1) i = i := by
  rw [fofrom]; exact if_pos h
theorem fo_no {sz : Int} {ns : List Int} {n k : Nat} {i : Int} (h : (fsel sz ns i n (n + 1)).sum.fmod 2 ≠ 1) : fofrom sz ns n (k + 1) i = fofrom sz ns n k (i + 1) := by
  rw [fofrom]; exact if_neg h
end Mine
namespace Mine
open PySem.Spec
abbrev rangeIt (i : Int) (k : Nat) : Obj := { cls := .type "range_iterator", dict := none, data := .fields #[rawInt i, rawInt (k : Int), rawInt 1], slots := #[] }
section
variable {prog : Program} {w : World} {A : Around} {E : Value → Shared → Prop} {s : Shared} {env : Env} {h₀ : Heap} {L : Addr} {x : Str} {px : Pos} {body : List Stmt} {Q : Flow → Shared → Prop}
theorem forLoop_one {R : Result → Shared → Prop} {target : Expr} {it : Value} (ht : ∀ v, letOwnedTupleGo target it v = pure ()) (h : wpAny (model prog w) A (pyNext it) (fun r s₁ => match r with
      | none => R (.ok .next) s₁
      | some v => wpAny (model prog w) A (assign target env v) (fun _ s₂ => wpAny (model prog w) A (execs body env) (fun f s₃ => match f with
          | .next | .cont => codeAny (model prog w) A (.forLoop target it body [] env) R s₃
          | .brk => R (.ok .next) s₃
          | .ret v => R (.ok (.ret v)) s₃) (notedBy (model prog w) A env fun e s' => R (.error e) s') s₂) (notedBy (model prog w) A env fun e s' => R (.error e) s') s₁) (notedBy (model prog w) A env fun e s' => R (.error e) s') s) : codeAny (model prog w) A (.forLoop target it body [] env) R s := by
  refine codeAny_of_tree ?_
  show wpAny _ _ ((forTurn target it body [] env).onRaise (fun x => do noteFrame x env; theTreesLotGoes x)) _ _ s
  refine wpAny_noted ?_
  simp only [forTurn]
  refine wpAny_bind (wpAny_standAt (wpAny_bind (wpAny_onRaise (wpAny_mono h (fun r s₁ h₁ => ?_) fun _ _ h' => wpAny_standAt h'))))
  cases r with
  | none => exact wpAny_pure ⟨rfl, codeAny_block (wpAny_execs_nil h₁)⟩
  | some v =>
    refine wpAny_bind (wpAny_of_eq (ht v) ?_)
    refine wpAny_bind (wpAny_mono h₁ (fun _ s₂ h₂ => wpAny_bind (wpAny_mono h₂ (fun f s₃ h₃ => ?_) fun _ _ h' => h')) fun _ _ h' => h')
    cases f with
    | next => exact wpAny_pure ⟨rfl, h₃⟩
    | cont => exact wpAny_pure ⟨rfl, h₃⟩
    | brk => exact wpAny_pure h₃
    | ret v => exact wpAny_pure h₃
def ForRest (prog : Program) (w : World) (A : Around) (env : Env) (I : Addr) (x : Str) (px : Pos) (body : List Stmt) (Q : Flow → Shared → Prop) (E : Value → Shared → Prop) (_i : Int) (_k : Nat) (s : Shared) : Prop :=
  codeAny (model prog w) A (.forLoop (.Name x px) (.ref I) body [] env) (fun r s' => match r with | .ok f => Q f s' | .error e => cameBackBy (model prog w) A env E e s') s
def ForPost (prog : Program) (w : World) (A : Around) (env : Env) (I : Addr) (x : Str) (px : Pos) (body : List Stmt) (Q : Flow → Shared → Prop) (E : Value → Shared → Prop) (i : Int) (k : Nat) (f : Flow) (s : Shared) : Prop :=
  match f with
  | .next | .cont => ForRest prog w A env I x px body Q E i k s
  | .brk => Q .next s
  | .ret v => Q (.ret v) s
def ForIn (prog : Program) (w : World) (A : Around) (env : Env) (x : Str) (px : Pos) (body : List Stmt) (Q : Flow → Shared → Prop) (E : Value → Shared → Prop) (it : Value) (s : Shared) : Prop :=
  ∃ I, it = .ref I ∧ ForRest prog w A env I x px body Q E 0 0 s
theorem For_in {iter : Expr} {pos : Pos} (h : wpAny (model prog w) A (eval iter env) (fun xv s₁ => wpAny (model prog w) A (pyIter xv) (fun it s₂ => ForIn prog w A env x px body Q E it s₂) E s₁) E s)
    (hs : ∀ x, foldedSetIterable iter env x = pure x := by intro _; rfl) : wpAny (model prog w) A (exec (.For (.Name x px) iter body [] pos) env) Q E s := by
  refine wpAny_For (wpAny_mono h (fun xv s₁ h₁ => wpAny_mono h₁ (fun it s₂ h₂ => ?_) fun _ _ e => e) fun _ _ e => e) hs
  obtain ⟨I, rfl, h⟩ := h₂
  exact h
theorem news_same {h h' : Heap} {I : Addr} {news : List (Addr × Obj)} (N : News h₀ L h news) (hs : ∀ b o, b ≠ I → h.get? b = some o → h'.get? b = some o) (off : ∀ p ∈ news, p.1 ≠ I) : News h₀ L h' news :=
  fun p hp => ⟨hs _ _ (off p hp) (N p hp).1, (N p hp).2⟩
theorem fr_same {h h' : Heap} {I : Addr} {m : Str → Option Value} (F : Fr h₀ L h m) (hs : ∀ b o, b ≠ I → h.get? b = some o → h'.get? b = some o) (hL : I ≠ L) (hI : h₀.get? I = none) : Fr h₀ L h' m :=
  ⟨F.ns.at' fun o e => hs L o (Ne.symm hL) e, fun b o e => hs b o (fun q => by rw [q, hI] at e; cases e) (F.keep b o e), F.above⟩
theorem ForRest.succ {I : Addr} {i : Int} {k : Nat} {m : Str → Option Value} {led : List (Addr × Obj)} (hE : PassesOwn (model prog w) A env E) (F : Fr h₀ L s.heap m) (N : News h₀ L s.heap led) (hm : (I, rangeIt i (k + 1)) ∈ led) (rest : List (Addr × Obj)) (sub : ∀ p ∈ rest, p ∈ led) (off : ∀ p ∈ rest, p.1 ≠ I)
    (h : ∀ h' t tk, Fr h₀ L h' m → News h₀ L h' ((I, rangeIt (i + 1) k) :: rest) → wpAny (model prog w) A (storeName env x (.int i t)) (fun _ s₂ => wpAny (model prog w) A (execs body env) (ForPost prog w A env I x px body Q E (i + 1) k) E s₂) E { s with heap := h', toks := tk }) :
    ForRest prog w A env I x px body Q E i (k + 1) s := by
  have hI := N _ hm
  refine forLoop_one (by intro _; rfl) ?_
  refine wpAny_pyNext_range_item (x := i) (left := ((k + 1 : Nat) : Int)) (step := 1) hI.1 (by omega) fun h' hit hs => ?_
  have hs' : ∀ b o, b ≠ I → s.heap.get? b = some o → h'.get? b = some o := fun b o hb e => hs.extBut b o hb e
  have F' := fr_same F hs' hI.2.1 hI.2.2
  have N' : News h₀ L h' ((I, rangeIt (i + 1) k) :: rest) := fun p hp => by
    rcases List.mem_cons.mp hp with rfl | hp
    · have e : (((k + 1 : Nat) : Int) - 1) = (k : Int) := by omega
      rw [e] at hit
      exact ⟨hit, hI.2⟩
    · exact news_same (fun p hp => N p (sub p hp)) hs' off p hp
  refine wpAny_passesOwn hE (wpAny_assign_Name (wpAny_mono (h h' _ _ F' N') (fun _ s₂ h₂ => ?_) fun _ _ e => e))
  refine wpAny_passesOwn hE (wpAny_mono h₂ (fun f s₃ h₃ => ?_) fun _ _ e => e)
  cases f <;> exact h₃
theorem ForRest.zero {I : Addr} {i : Int} {m : Str → Option Value} {led : List (Addr × Obj)} (hh : A.handled = none) (F : Fr h₀ L s.heap m) (N : News h₀ L s.heap led) (hm : (I, rangeIt i 0) ∈ led) (rest : List (Addr × Obj)) (sub : ∀ p ∈ rest, p ∈ led) (off : ∀ p ∈ rest, p.1 ≠ I)
    (h : ∀ h', Fr h₀ L h' m → News h₀ L h' rest → Q .next { s with heap := h' }) :
    ForRest prog w A env I x px body Q E i 0 s := by
  have hI := N _ hm
  refine forLoop_one (by intro _; rfl) ?_
  refine wpAny_pyNext_range_end hh (x := i) (left := ((0 : Nat) : Int)) (step := 1) hI.1 (by omega) fun h' hs => ?_
  have hs' : ∀ b o, b ≠ I → s.heap.get? b = some o → h'.get? b = some o := fun b o hb e => hs b o hb e
  exact h h' (fr_same F hs' hI.2.1 hI.2.2) (news_same (fun p hp => N p (sub p hp)) hs' off)
theorem iter_rangeF {r : Addr} {a b : Int} {t u v : Tok} {n : Nat} {m : Str → Option Value} {news : List (Addr × Obj)} (F : Fr h₀ L s.heap m) (N : News h₀ L s.heap news) (hr : IsRange s.heap r a b 1 t u v) (hsmall : Builtin.Range.small a b 1 = true) (hn : Builtin.Range.rangeSize a b 1 = (n : Int))
    (h : ∀ I h', Fr h₀ L h' m → News h₀ L h' ((I, rangeIt a n) :: news) → (∀ p ∈ news, p.1 < I) → ForRest prog w A env I x px body Q E a n { s with heap := h' }) :
    wpAny (model prog w) A (pyIter (.ref r)) (fun it s₂ => ForIn prog w A env x px body Q E it s₂) E s := by
  refine wpAny_pyIter_range hr hsmall ⟨_, rfl, h _ _ (F.push _) (fun p hp => ?_) fun p hp => Heap.lt_size (N p hp).1⟩
  rcases List.mem_cons.mp hp with rfl | hp
  · refine ⟨?_, ?_, ?_⟩
    · rw [hn]; exact Heap.get?_push_size _ rfl
    · exact Ne.symm (Nat.ne_of_lt F.ns.lt)
    · cases e : h₀.get? s.heap.objs.size with
      | none => rfl
      | some o => exact absurd (Heap.lt_size (F.keep _ _ e)) (Nat.lt_irrefl _)
  · exact ⟨Heap.get?_push_of_some _ (N p hp).1, (N p hp).2⟩
def ForEnd {σ : Type} (h₀ : Heap) (L I : Addr) (Led : σ → List (Addr × Obj)) (J : Int → Nat → σ → (Str → Option Value) → Prop) (Q : Flow → Shared → Prop) (s : Shared) (i : Int) (k : Nat) (f : Flow) (s₃ : Shared) : Prop :=
  match f with
  | .next | .cont => ∃ (c' : σ) (h' : Heap) (tk : Nat) (m' : Str → Option Value) (news' : List (Addr × Obj)), s₃ = { s with heap := h', toks := tk } ∧ Fr h₀ L h' m' ∧ News h₀ L h' news' ∧ (∀ p ∈ (I, rangeIt i k) :: Led c', p ∈ news') ∧ (∀ p ∈ Led c', p.1 ≠ I) ∧ J i k c' m'
  | .brk => Q .next s₃
  | .ret v => Q (.ret v) s₃
theorem ForRest.inv {σ : Type} {I : Addr} (Led : σ → List (Addr × Obj)) (J : Int → Nat → σ → (Str → Option Value) → Prop) (hh : A.handled = none) (hE : PassesOwn (model prog w) A env E)
    (turn : ∀ i k c m h t tk, J i (k + 1) c m → (∀ p ∈ Led c, p.1 ≠ I) → Fr h₀ L h m → News h₀ L h ((I, rangeIt (i + 1) k) :: Led c) →
      wpAny (model prog w) A (storeName env x (.int i t)) (fun _ s₂ => wpAny (model prog w) A (execs body env) (ForEnd h₀ L I Led J Q s (i + 1) k) E s₂) E { s with heap := h, toks := tk })
    (done : ∀ i c m h tk, J i 0 c m → Fr h₀ L h m → News h₀ L h (Led c) → Q .next { s with heap := h, toks := tk }) :
    ∀ (k : Nat) (i : Int) (c : σ) (m : Str → Option Value) (h : Heap) (tk : Nat), J i k c m → (∀ p ∈ Led c, p.1 ≠ I) → Fr h₀ L h m → News h₀ L h ((I, rangeIt i k) :: Led c) → ForRest prog w A env I x px body Q E i k { s with heap := h, toks := tk } := by
  intro k
  induction k with
  | zero =>
    intro i c m h tk hJ off F N
    exact ForRest.zero (s := { s with heap := h, toks := tk }) hh F N (List.Mem.head _) (Led c) (fun p hp => List.Mem.tail _ hp) off fun h' F' N' => done i c m h' tk hJ F' N'
  | succ k ih =>
    intro i c m h tk hJ off F N
    refine ForRest.succ (s := { s with heap := h, toks := tk }) hE F N (List.Mem.head _) (Led c) (fun p hp => List.Mem.tail _ hp) off fun h' t tk' F' N' => ?_
    refine wpAny_mono (turn i k c m h' t tk' hJ off F' N') (fun _ s₂ h₂ => wpAny_mono h₂ (fun f s₃ h₃ => ?_) fun _ _ e => e) fun _ _ e => e
    cases f with
    | next =>
      obtain ⟨c', h'', tk'', m', news', rfl, F₃, N₃, sub, off', hJ'⟩ := h₃
      exact ih (i + 1) c' m' h'' tk'' hJ' off' F₃ (fun p hp => N₃ p (sub p hp))
    | cont =>
      obtain ⟨c', h'', tk'', m', news', rfl, F₃, N₃, sub, off', hJ'⟩ := h₃
      exact ih (i + 1) c' m' h'' tk'' hJ' off' F₃ (fun p hp => N₃ p (sub p hp))
    | brk => exact h₃
    | ret v => exact h₃
theorem ForEnd.next {σ : Type} {I : Addr} {Led : σ → List (Addr × Obj)} {J : Int → Nat → σ → (Str → Option Value) → Prop} {i : Int} {k : Nat} (c' : σ) {h' : Heap} {tk : Nat} {m' : Str → Option Value} {news' : List (Addr × Obj)} (F : Fr h₀ L h' m') (N : News h₀ L h' news')
    (sub : ∀ p ∈ (I, rangeIt i k) :: Led c', p ∈ news') (off : ∀ p ∈ Led c', p.1 ≠ I) (hJ : J i k c' m') : ForEnd h₀ L I Led J Q s i k .next { s with heap := h', toks := tk } := ⟨c', h', tk, m', news', rfl, F, N, sub, off, hJ⟩
open LCg LCt in
theorem compT_inv {m : Str → Option Value} {ct elt : Expr} {scope : Scope} {cl : List (Str × Addr)} {S : List (Addr × Obj) → Prop} {P : Nat → Value → Prop} {Fin : List Value → List (Addr × Obj) → Prop} {n : Nat} {news : List (Addr × Obj)} (J : Nat → List Value → Prop)
    (turn : ∀ i ys v I oI C oC D m₂ h tk (E' : Value → Shared → Prop), i < n → J i ys → P i v → NsObj oC m₂ → m₂ x = some v → Fr h₀ L h m → News h₀ L h ((I, oI) :: (C, oC) :: (D, lst ys) :: news) → Off3 I C D news → ((@Ne Nat I C) ∧ (@Ne Nat I D) ∧ (@Ne Nat C D)) →
      wpAny (model prog w) A (isTrue ct (compEnvC scope cl C env) (eval ct (compEnvC scope cl C env))) (fun ok s' => if ok = true then
        wpAny (model prog w) A (eval elt (compEnvC scope cl C env)) (CompEnd h₀ L m { s with heap := h, toks := tk } I oI C oC D (lst ys) S (fun y news' => news' = news ∧ J (i + 1) (ys ++ [y]))) E' s'
        else CompEnd h₀ L m { s with heap := h, toks := tk } I oI C oC D (lst ys) S (fun _ news' => news' = news ∧ J (i + 1) ys) Value.none s') E' { s with heap := h, toks := tk })
    (done : ∀ ys, J n ys → Fin ys news) :
    ∀ k i ys, i + k = n → J i ys → CompRestT prog w A h₀ L m env ct elt x scope cl s S P Fin k i ys news := by
  intro k
  induction k with
  | zero =>
    intro i ys hi hJ
    have : i = n := by omega
    subst this
    exact CompRestT.zero (done ys hJ)
  | succ k ih =>
    intro i ys hi hJ
    refine CompRestT.succ fun v I oI C oC D m₂ h tk E' hP hC hv F N off ne => ?_
    have up : ∀ (rest rest' : Value → List (Addr × Obj) → Prop) (y : Value) (s₂ : Shared), (∀ news', rest y news' → rest' y news') → CompEnd h₀ L m { s with heap := h, toks := tk } I oI C oC D (lst ys) S rest y s₂ → CompEnd h₀ L m { s with heap := h, toks := tk } I oI C oC D (lst ys) S rest' y s₂ := by
      rintro rest rest' y s₂ hr ⟨h', tk', news', e, F', N', off', hS, r⟩
      exact ⟨h', tk', news', e, F', N', off', hS, hr _ r⟩
    refine wpAny_mono (turn i ys v I oI C oC D m₂ h tk E' (by omega) hJ hP hC hv F N off ne) (fun ok s' hq => ?_) fun _ _ e => e
    cases ok with
    | true =>
      simp only [if_true] at hq ⊢
      refine wpAny_mono hq (fun y s₂ h₂ => ?_) fun _ _ e => e
      refine up _ _ y s₂ (fun news' hr => ?_) h₂
      obtain ⟨rfl, hJ'⟩ := hr
      exact ih (i + 1) _ (by omega) hJ'
    | false =>
      simp only [Bool.false_eq_true, if_false] at hq ⊢
      refine up _ _ _ s' (fun news' hr => ?_) hq
      obtain ⟨rfl, hJ'⟩ := hr
      exact ih (i + 1) _ (by omega) hJ'
open LCg in
theorem comp_inv {m : Str → Option Value} {elt : Expr} {scope : Scope} {cl : List (Str × Addr)} {S : List (Addr × Obj) → Prop} {P : Nat → Value → Prop} {Fin : List Value → List (Addr × Obj) → Prop} {n : Nat} {news : List (Addr × Obj)} (J : Nat → List Value → Prop)
    (turn : ∀ i ys v I oI C oC D m₂ h tk (E' : Value → Shared → Prop), i < n → J i ys → P i v → NsObj oC m₂ → m₂ x = some v → Fr h₀ L h m → News h₀ L h ((I, oI) :: (C, oC) :: (D, lst ys) :: news) → Off3 I C D news → ((@Ne Nat I C) ∧ (@Ne Nat I D) ∧ (@Ne Nat C D)) →
        wpAny (model prog w) A (eval elt (compEnvC scope cl C env)) (CompEnd h₀ L m { s with heap := h, toks := tk } I oI C oC D (lst ys) S (fun y news' => news' = news ∧ J (i + 1) (ys ++ [y]))) E' { s with heap := h, toks := tk })
    (done : ∀ ys, J n ys → Fin ys news) :
    ∀ k i ys, i + k = n → J i ys → CompRest prog w A h₀ L m env elt x scope cl s S P Fin k i ys news := by
  intro k
  induction k with
  | zero =>
    intro i ys hi hJ
    have : i = n := by omega
    subst this
    exact CompRest.zero (done ys hJ)
  | succ k ih =>
    intro i ys hi hJ
    refine CompRest.succ fun v I oI C oC D m₂ h tk E' hP hC hv F N off ne => ?_
    refine wpAny_mono (turn i ys v I oI C oC D m₂ h tk E' (by omega) hJ hP hC hv F N off ne) (fun y s₂ h₂ => ?_) fun _ _ e => e
    obtain ⟨h', tk', news', e, F', N', off', hS, rfl, hJ'⟩ := h₂
    exact ⟨h', tk', _, e, F', N', off', hS, ih (i + 1) _ (by omega) hJ'⟩
end
/-- a mark at which the walk stops -/
def Hold (p : Prop) : Prop := p
theorem Hold.intro {p : Prop} (h : Hold p) : p := h
theorem Hold.out {p : Prop} (h : p) : Hold p := h
theorem allNe_of {d e : Addr} {l : List (Addr × Obj)} (h : AllLt e l) (hde : e ≤ d) : ∀ p ∈ l, p.1 ≠ d := fun p hp => Nat.ne_of_lt (Nat.lt_of_lt_of_le (kst_ltOf h p hp) hde)
end Mine
namespace Mine
open PySem.Spec
abbrev S (l : List Nat) : Str := ⟨l.toArray⟩
theorem S_len (l : List Nat) : (S l).length = l.length := by show l.toArray.size = _; simp
theorem S_inj {a b : List Nat} (h : S a = S b) : a = b := by
  have := congrArg (fun x => x.cps.toList) h
  simpa using this
theorem S_add (a b : List Nat) : S a ++ S b = S (a ++ b) := by
  apply Str.ext'
  rw [Str.cps_append]; simp
inductive SAre : List Value → List (List Nat) → Prop
  | nil : SAre [] []
  | cons {l : List Nat} {t : Tok} {vs : List Value} {ls : List (List Nat)} : SAre vs ls → SAre (.str (S l) t :: vs) (l :: ls)
theorem SAre.length : ∀ {vs ls}, SAre vs ls → vs.length = ls.length
  | _, _, .nil => rfl
  | _, _, .cons h => by simp [h.length]
theorem SAre.append : ∀ {vs ls vs' ls'}, SAre vs ls → SAre vs' ls' → SAre (vs ++ vs') (ls ++ ls')
  | _, _, _, _, .nil, h => h
  | _, _, _, _, .cons g, h => .cons (g.append h)
theorem SAre.get : ∀ {vs ls}, SAre vs ls → ∀ (j : Nat) (v : Value), vs[j]? = some v → ∃ l t, v = .str (S l) t ∧ ls[j]? = some l
  | _, _, .nil, _, _, h => by simp at h
  | _, _, .cons (l := l) (t := t) g, 0, v, h => ⟨l, t, by simpa using h.symm, rfl⟩
  | _, _, .cons g, j + 1, v, h => by
    obtain ⟨l, t, e, e2⟩ := g.get j v (by simpa using h)
    exact ⟨l, t, e, by simpa using e2⟩
theorem SAre.strs : ∀ {vs ls}, SAre vs ls → StrsAre vs (ls.map S)
  | _, _, .nil => .nil
  | _, _, .cons g => .cons _ _ g.strs
theorem IntsAre.at' : ∀ {vs : List Value} {ns : List Int}, IntsAre vs ns → ∀ (j : Nat) (v : Value), vs[j]? = some v → ∃ t, v = .int (ns.getD j 0) t ∧ j < ns.length
  | _, _, .nil, _, _, h => by simp at h
  | _, _, .cons n t g, 0, v, h => ⟨t, by simpa using h.symm, by simp⟩
  | _, _, .cons n t g, j + 1, v, h => by
    obtain ⟨t, e, e2⟩ := IntsAre.at' g j v (by simpa using h)
    exact ⟨t, by simpa using e, by simpa using e2⟩
/-- pieces glued by a sign -/
def glue (c : List Nat) : List (List Nat) → List Nat
  | [] => []
  | [x] => x
  | x :: y :: r => x ++ c ++ glue c (y :: r)
theorem join_S (c : List Nat) : ∀ ls : List (List Nat), Str.join (S c) (ls.map S) = S (glue c ls)
  | [] => by show Str.empty = _; rfl
  | [x] => rfl
  | x :: y :: r => by
    have ih := join_S c (y :: r)
    show S x ++ S c ++ Str.join (S c) ((y :: r).map S) = _
    rw [ih, S_add, S_add]; rfl
theorem txtjoin_S (c : List Nat) (ls : List (List Nat)) : Txt.join (S c) (ls.map S) = S (glue c ls) := by
  rw [← join_S]
  exact StrLaws.glued_eq_join _ _
theorem glue_nil : ∀ ls : List (List Nat), glue [] ls = ls.flatten
  | [] => rfl
  | [x] => by simp [glue]
  | x :: y :: r => by simp [glue, glue_nil (y :: r)]
theorem glue_cons {c : List Nat} {x : List Nat} {r : List (List Nat)} (h : r ≠ []) : glue c (x :: r) = x ++ c ++ glue c r := by
  cases r with
  | nil => exact absurd rfl h
  | cons y r => rfl
/-- glued pieces that are free of the sign are told back -/
theorem glue_inj {c : Nat} : ∀ {ps qs : List (List Nat)}, ps ≠ [] → qs ≠ [] → (∀ p ∈ ps, c ∉ p) → (∀ q ∈ qs, c ∉ q) → glue [c] ps = glue [c] qs → ps = qs := by
  have cut : ∀ (a b r r' : List Nat), c ∉ a → c ∉ b → a ++ c :: r = b ++ c :: r' → a = b ∧ r = r' := by
    intro a
    induction a with
    | nil =>
      intro b r r' _ hb h
      cases b with
      | nil => simpa using h
      | cons x b => simp at h; simp at hb; exact absurd h.1 hb.1
    | cons y a ih =>
      intro b r r' ha hb h
      cases b with
      | nil => simp at h; simp at ha; exact absurd h.1.symm ha.1
      | cons x b =>
        simp only [List.cons_append, List.cons.injEq] at h
        simp only [List.mem_cons, not_or] at ha hb
        obtain ⟨e1, e2⟩ := ih b r r' ha.2 hb.2 h.2
        exact ⟨by rw [h.1, e1], e2⟩
  have none : ∀ (a b r : List Nat), c ∉ a → a = b ++ c :: r → False := by
    rintro a b r ha rfl
    exact ha (by simp)
  intro ps
  induction ps with
  | nil => intro qs h; exact absurd rfl h
  | cons p ps ih =>
    intro qs _ hq hp hqs h
    cases qs with
    | nil => exact absurd rfl hq
    | cons q qs =>
      by_cases h1 : ps = []
      · by_cases h2 : qs = []
        · subst h1 h2; simpa [glue] using h
        · subst h1
          rw [glue_cons h2] at h
          exact (none p q _ (hp p (.head _)) (by simpa [glue] using h)).elim
      · by_cases h2 : qs = []
        · subst h2
          rw [glue_cons h1] at h
          exact (none q p _ (hqs q (.head _)) (by simpa [glue] using h.symm)).elim
        · rw [glue_cons h1, glue_cons h2] at h
          obtain ⟨e1, e2⟩ := cut p q _ _ (hp p (.head _)) (hqs q (.head _)) (by simpa using h)
          rw [e1, ih h1 h2 (fun a ha => hp a (.tail _ ha)) (fun a ha => hqs a (.tail _ ha)) e2]
theorem split_eq {c : Nat} {x : List Nat} {ps : List (List Nat)} (hx : x = glue [c] ps) (h0 : ps ≠ []) (hf : ∀ p ∈ ps, c ∉ p) : Txt.split (S x) (S [c]) = ps.map S := by
  have e1 := StrLaws.join_split (S x) (S [c])
  have e2 := StrLaws.split_free (S x) c
  have back : ∀ l : List Str, ∃ qs : List (List Nat), l = qs.map S := fun l => ⟨l.map fun y => y.cps.toList, by rw [List.map_map]; exact (List.map_id l).symm.trans (List.map_congr_left fun y _ => by simp [S])⟩
  obtain ⟨qs, hq⟩ := back (Txt.split (S x) (S [c]))
  rw [hq] at e1
  have e2' : ∀ p ∈ qs, c ∉ p := by
    intro p hp
    have hm : S p ∈ Txt.split (S x) (S [c]) := by rw [hq]; exact List.mem_map_of_mem hp
    have := e2 (S p) hm
    simpa using this
  rw [join_S] at e1
  have hne : qs ≠ [] := by
    rintro rfl
    have e := congrArg List.length hq
    simp only [List.map_nil, List.length_nil] at e
    have : (Txt.split (S x) (S [c])) ≠ [] := by
      unfold Txt.split
      split
      · simp
      · split
        · simp
        · rename_i ho
          cases hocc : Builtin.Str.occurrences (S x) (S [c]) 0 (S x).length ((S x).length + 1) with
          | nil => rw [hocc] at ho; simp at ho
          | cons a r => simp [Builtin.Str.partsBetween]
    exact this (List.length_eq_zero_iff.mp e)
  rw [hq, glue_inj hne h0 e2' hf ((S_inj e1).trans hx)]
theorem sare_of : ∀ {l : List (Str × Tok)} {ps : List (List Nat)}, l.map (·.1) = ps.map S → SAre (strValues l) ps
  | [], [], _ => .nil
  | [], _ :: _, h => by simp at h
  | _ :: _, [], h => by simp at h
  | (a, t) :: l, p :: ps, h => by
    simp only [List.map_cons, List.cons.injEq] at h
    obtain ⟨e1, e2⟩ := h
    subst e1
    exact .cons (sare_of e2)
section
variable {prog : Program} {w : World} {A : Around} {E : Value → Shared → Prop} {s : Shared} {h₀ : Heap} {L : Addr} {m : Str → Option Value} {news : List (Addr × Obj)} {t u : Tok} {Q : Value → Shared → Prop}
theorem mul_eq {n : Int} (h0 : 0 ≤ n) : Txt.mul (Str.ofString "\"") n = S (List.replicate n.toNat 34) := by
  have q : Str.ofString "\"" = ⟨#[34]⟩ := by decide
  obtain ⟨k, rfl⟩ := Int.eq_ofNat_of_zero_le h0
  rw [q]
  unfold Txt.mul
  have fold : ∀ (k : Nat) (acc : Array Nat), (List.replicate k #[34]).foldl (· ++ ·) acc = acc ++ (List.replicate k 34).toArray := by
    intro k
    induction k with
    | zero => intro acc; simp
    | succ k ih => intro acc; simp only [List.replicate_succ, List.foldl_cons]; rw [ih, Array.append_assoc]; congr 1; exact (List.append_toArray [34] (List.replicate k 34)).symm ▸ rfl
  split
  · have : k = 0 := by omega
    subst this; rfl
  · split
    · rename_i h1 h2
      have : k = 1 := by
        simp at h2; rcases h2 with h2 | h2
        · omega
        · exact absurd h2 (by decide)
      subst this; rfl
    · apply Str.ext'
      show (List.replicate (Int.toNat (k : Int)) #[34]).foldl (· ++ ·) #[] = (List.replicate (Int.toNat (k : Int)) 34).toArray
      rw [fold]; simp
theorem mul_S {n : Int} (h0 : 0 ≤ n) (h1 : n ≤ 1000) (h : ∀ t' k, Q (.str (S (List.replicate n.toNat 34)) t') { s with toks := k }) : wpAny (model prog w) A (binaryOp .Mult (.str (Str.ofString "\"") t) (.int n u)) Q E s :=
  KXi.mul (n := 1) (by decide) (by decide) (by omega) (by omega) fun t' k _ _ => by rw [mul_eq h0]; exact h t' k
theorem add_S {a b : List Nat} (hz : a.length + b.length ≤ 16777216) (h : ∀ t' k, Q (.str (S (a ++ b)) t') { s with toks := k }) : wpAny (model prog w) A (binaryOp .Add (.str (S a) t) (.str (S b) u)) Q E s :=
  PySem.SB.add (fun t' k => by rw [S_add]; exact h t' k) (by rw [S_len, S_len, sizeLine_eq]; exact hz)
theorem join_list_S {c : List Nat} {D : Addr} {vs : List Value} {k : Nat} {ls : List (List Nat)} (N : News h₀ L s.heap news) (hm : (D, listOf vs.toArray k) ∈ news) (hi : SAre vs ls) (hz : (ls.map List.length).sum + ls.length * c.length ≤ 16777216)
    (h : ∀ t' k, Q (.str (S (glue c ls)) t') { s with toks := k }) : wpAny (model prog w) A (call (.builtin "str.join") [.str (S c) t, .ref D]) Q E s :=
  join_list (isList_of N hm) (by simpa using hi.strs) (by rw [List.map_map, List.length_map, S_len]; have : (List.length ∘ fun x : List Nat => x) = List.length := rfl; simpa [Function.comp_def, S_len] using hz) fun t' k => by rw [txtjoin_S]; exact h t' k
theorem add_eq {x y : Str} (a b : List Nat) (hx : x = S a) (hy : y = S b) (hz : a.length + b.length ≤ 16777216) (h : ∀ t' k, Q (.str (S (a ++ b)) t') { s with toks := k }) : wpAny (model prog w) A (binaryOp .Add (.str x t) (.str y u)) Q E s := by
  subst hx hy; exact add_S hz h
theorem join_eq {x : Str} (c : List Nat) {D : Addr} {vs : List Value} {k : Nat} {ls : List (List Nat)} (hx : x = S c) (N : News h₀ L s.heap news) (hm : (D, listOf vs.toArray k) ∈ news) (hi : SAre vs ls) (hz : (ls.map List.length).sum + ls.length * c.length ≤ 16777216)
    (h : ∀ t' k, Q (.str (S (glue c ls)) t') { s with toks := k }) : wpAny (model prog w) A (call (.builtin "str.join") [.str x t, .ref D]) Q E s := by
  subst hx; exact join_list_S N hm hi hz h
theorem len_S {l : List Nat} (hz : l.length ≤ 16777216) (h : ∀ t' k, Q (.int (l.length : Int) t') { s with toks := k }) : wpAny (model prog w) A (call (.builtin "len") [.str (S l) t]) Q E s := by
  refine PySem.P.len_str (by rw [S_len]; omega) ?_
  rw [S_len]; exact h _ _
theorem ne_same {x : Str} (h : Q (.bool false) s) : wpAny (model prog w) A (compareOp .NotEq (.str x t) (.str x u)) Q E s :=
  PyProof.Rows.ne_str (by simpa using h)
theorem split_S {c : Nat} {x : List Nat} {ps : List (List Nat)} (hx : x = glue [c] ps) (h0 : ps ≠ []) (hf : ∀ p ∈ ps, c ∉ p) (F : Fr h₀ L s.heap m) (N : News h₀ L s.heap news) (hz : x.length + 2 ≤ 16777216)
    (h : ∀ D vs h' k, SAre vs ps → Fr h₀ L h' m → News h₀ L h' ((D, listOf vs.toArray 0) :: news) → (∀ p ∈ news, p.1 < D) → Q (.ref D) { s with heap := h', toks := k }) :
    wpAny (model prog w) A (call (.builtin "str.split") [.str (S x) t, .str (S [c]) u]) Q E s := by
  refine splitN1 F N (by rw [S_len]; rfl) (fun l h' k e F' N' => ?_) (by rw [S_len, sizeLine_eq]; exact hz)
  rw [split_eq hx h0 hf] at e
  refine h _ (strValues l) h' k ?_ F' N' fun p hp => Heap.lt_size (N p hp).1
  exact sare_of e
end
end Mine
namespace Mine
open PySem.Spec PySem.SeqAt
section
variable {prog : Program} {w : World} {A : Around} {E : Value → Shared → Prop} {s : Shared} {h₀ : Heap} {L : Addr} {news : List (Addr × Obj)}
theorem eqAt_bytes (b : Array UInt8) (t : Tok) (c : Array UInt8) (u : Tok) : EqAt A s (.bytes b t) (.bytes c u) (decide (b = c)) := fun prog w E Q h => by
  unfold eqBool
  refine wpAny_holding ?_
  refine wpAny_ite_split (fun hab => ?_) (fun _ => ?_)
  · have e := eq_of_beq hab
    injection e with e1 e2
    subst e1
    simp only [decide_true] at h
    exact wpAny_bind (wpAny_rule (wpAny_pure h))
  · refine wpAny_bind (m := richCompare .Eq (.bytes b t) (.bytes c u)) (eq_bytes (prog := prog) (w := w) (E := E) (b := b) (c := c) (t := t) (u := u) ?_)
    refine wpAny_truthy_bool ?_
    have e : (b.toList == c.toList) = decide (b = c) := by
      by_cases hb : b = c
      · subst hb; simp
      · rw [decide_eq_false hb]
        have : b.toList ≠ c.toList := fun q => hb (by cases b; cases c; simpa using q)
        simpa using this
    rw [e]; exact h
inductive BytesAre : List Value → List (Array UInt8) → Prop
  | nil : BytesAre [] []
  | cons {b : Array UInt8} {t : Tok} {vs : List Value} {bs : List (Array UInt8)} : BytesAre vs bs → BytesAre (.bytes b t :: vs) (b :: bs)
theorem BytesAre.length : ∀ {vs bs}, BytesAre vs bs → vs.length = bs.length
  | _, _, .nil => rfl
  | _, _, .cons h => by simp [h.length]
theorem BytesAre.append : ∀ {vs bs vs' bs'}, BytesAre vs bs → BytesAre vs' bs' → BytesAre (vs ++ vs') (bs ++ bs')
  | _, _, _, _, .nil, h => h
  | _, _, _, _, .cons g, h => .cons (g.append h)
theorem BytesAre.get : ∀ {vs bs}, BytesAre vs bs → ∀ (j : Nat) (h : j < vs.length), ∃ t, vs[j] = .bytes (bs.getD j #[]) t
  | _, _, .nil, _, h => absurd h (by simp)
  | _, _, .cons (t := t) g, 0, _ => ⟨t, rfl⟩
  | _, _, .cons (t := t) g, j + 1, h => by
    obtain ⟨t', e⟩ := g.get j (by simpa using h)
    exact ⟨t', by simpa using e⟩
theorem range_all_eq (bs cs : List (Array UInt8)) (h : bs.length = cs.length) : (List.range bs.length).all (fun j => decide (bs.getD j #[] = cs.getD j #[])) = decide (bs = cs) := by
  rw [Bool.eq_iff_iff]
  simp only [List.all_eq_true, List.mem_range, decide_eq_true_eq]
  constructor
  · intro hj
    refine List.ext_getElem h fun j h1 h2 => ?_
    have := hj j h1
    simpa [h1, h2] using this
  · rintro rfl j _; rfl
theorem rc_bytes {l m : Addr} {vs us : List Value} {bs cs : List (Array UInt8)} (hl : s.heap.IsList l vs.toArray) (hm : s.heap.IsList m us.toArray) (hb : BytesAre vs bs) (hc : BytesAre us cs) (hu : A.units < cLine) : RcAt A s (.ref l) (.ref m) (decide (bs = cs)) := by
  by_cases hlen : bs.length = cs.length
  · have := RcAt.lists (A := A) (s := s) (e := fun j => decide (bs.getD j #[] = cs.getD j #[])) hl hm (by simp [hb.length, hc.length, hlen]) hu (fun j h1 h2 => by
      obtain ⟨t, e1⟩ := hb.get j (by simpa using h1)
      obtain ⟨u, e2⟩ := hc.get j (by simpa using h2)
      simp only [List.getElem_toArray, e1, e2]
      exact eqAt_bytes _ _ _ _)
    have e : vs.toArray.size = bs.length := by simp [hb.length]
    rw [e, range_all_eq bs cs hlen] at this
    exact this
  · have : decide (bs = cs) = false := decide_eq_false fun e => hlen (by rw [e])
    rw [this]
    exact RcAt.lists_lengths hl hm (by simp [hb.length, hc.length, hlen]) hu
end
end Mine
namespace Mine
open PySem.Spec
section
variable {prog : Program} {w : World} {A : Around} {E : Value → Shared → Prop} {s : Shared} {h₀ : Heap} {L : Addr} {news : List (Addr × Obj)} {l : Addr} {us : List Value} {c : Nat} {k : Int} {u : Tok} {v : Value} {Q : Value → Shared → Prop} {value slice : Expr}
theorem item_pos (N : News h₀ L s.heap news) (hm : (l, listOf us.toArray c) ∈ news) (h0 : 0 ≤ k) (hk : k < 2 ^ 63) (hx : us[k.toNat]? = some v) (h : Q v s)
    (hs : subscripted slice false (.ref l) (.int k u) = operate [.ref l, .int k u] (getItem (.ref l) (.int k u)) := by with_unfolding_all rfl) :
    wpAny (model prog w) A (subscriptTail value slice (.ref l) (.int k u)) Q E s :=
  have hL := isList_of N hm
  tail_any hL.typeIs slot_list_getitem.lookup (wpAny_getItem_list hL h0 hk (by simpa using hx) h) hs
theorem item_neg (N : News h₀ L s.heap news) (hm : (l, listOf us.toArray c) ∈ news) (h0 : k < 0) (h1 : -(us.length : Int) ≤ k) (hf : -(2 ^ 63) ≤ k) (hx : us[(k + us.length).toNat]? = some v) (h : Q v s)
    (hs : subscripted slice false (.ref l) (.int k u) = operate [.ref l, .int k u] (getItem (.ref l) (.int k u)) := by with_unfolding_all rfl) :
    wpAny (model prog w) A (subscriptTail value slice (.ref l) (.int k u)) Q E s :=
  have hL := isList_of N hm
  tail_any hL.typeIs slot_list_getitem.lookup (wpAny_getItem_list_neg hL h0 (by simpa using h1) hf (by simpa using hx) h) hs
theorem ints_pick {vs : List Value} {ns : List Int} (h : IntsAre vs ns) : ∀ js : List Nat, ∃ ks, IntsAre (js.filterMap (vs.toArray[·]?)) ks
  | [] => ⟨[], .nil⟩
  | j :: js => by
    obtain ⟨ks, hk⟩ := ints_pick h js
    cases e : vs[j]? with
    | none =>
      refine ⟨ks, ?_⟩
      rw [List.filterMap_cons]
      simp only [List.getElem?_toArray, e]
      simpa using hk
    | some v =>
      obtain ⟨n, t, rfl, _⟩ := IntsAre.at h j v e
      refine ⟨n :: ks, ?_⟩
      rw [List.filterMap_cons]
      simp only [List.getElem?_toArray, e]
      exact .cons n t (by simpa using hk)
theorem slice3_ints {m : Str → Option Value} {vs : List Value} {ns : List Int} {vl vu vk : Value} {lo hi st : Option Int} {ops : List Value} (F : Fr h₀ L s.heap m) (N : News h₀ L s.heap news) (hl : s.heap.IsList l vs.toArray) (hI : IntsAre vs ns) (hn : ns.length ≤ 1000) (pl : IsPart vl lo) (pu : IsPart vu hi) (pk : IsPart vk st) (h0 : st ≠ some 0)
    (h : ∀ D ws ks h', IntsAre ws ks → Fr h₀ L h' m → News h₀ L h' ((D, listOf ws.toArray 0) :: news) → (∀ p ∈ news, p.1 < D) → Q (.ref D) { s with heap := h' })
    (hs : subscripted slice false (.ref l) (.ref s.heap.objs.size) = operate ops (getItem (.ref l) (.ref s.heap.objs.size)) := by with_unfolding_all rfl) (ht : ∀ r, letTemporaryGo value (.ref l) r = pure () := by intro _; with_unfolding_all rfl) :
    wpAny (model prog w) A (subscriptTail value slice (.ref l) (.ref s.heap.objs.size)) Q E { s with heap := s.heap.push { cls := .type "slice", data := .fields #[vl, vu, vk] } } := by
  refine kmk_slice3_lit F N hl pl pu pk h0 rfl (fun D h' F' N' lt => ?_) hs ht (by rw [List.size_toArray, hI.length, sizeLine_eq]; omega)
  obtain ⟨ks, hk⟩ := ints_pick hI (sliceRange (sliceBounds lo hi st vs.toArray.size).1 (sliceBounds lo hi st vs.toArray.size).2.1 (sliceBounds lo hi st vs.toArray.size).2.2)
  refine h D _ ks h' ?_ F' N' lt
  unfold slicePick
  simpa using hk
end
end Mine
namespace Mine
open PySem.Spec
def ab (x : Int) : Int := if x < 0 then -x else x
def dif (ns : List Int) (i : Nat) : Int := ns.getD i 0 - ns.getD ((i + ns.length - 1) % ns.length) 0
def made (ns : List Int) : List Int := (List.range ns.length).map fun i => ab (dif ns i)
def marks (n : Int) : List Nat := List.replicate n.toNat 34
def half (x : Int) : List Nat := marks (x.fdiv 2)
def fstOdd : List Int → Nat
  | [] => 0
  | x :: r => if x.fmod 2 = 1 then 0 else fstOdd r + 1
def quoted (sg : Nat) (md : List Int) : List Nat := (md.map fun x => marks x ++ [sg]).flatten
def tells (sg : Nat) (md : List Int) (f : Nat) : List Nat := glue [sg] (((md ++ [0]).take (f + 1)).map half)
theorem ab_nonneg (x : Int) : 0 ≤ ab x := by unfold ab; split <;> omega
theorem ab_natAbs (x : Int) : ab x = (x.natAbs : Int) := by unfold ab; split <;> omega
theorem fmod2 (x : Int) : x.fmod 2 = x % 2 := Int.fmod_eq_emod_of_nonneg _ (by decide)
theorem fdiv2 (x : Int) : x.fdiv 2 = x / 2 := Int.fdiv_eq_ediv_of_nonneg _ (by decide)
theorem p257_rep (h : Nat) {c : Nat} (hc : c ≠ 34) (r : List Nat) : p257 (List.replicate (2 * h) 34 ++ c :: r) = List.replicate h 34 ++ c :: p257 r := by
  induction h with
  | zero => simp [p257_other hc]
  | succ h ih =>
    have e : 2 * (h + 1) = (2 * h + 1) + 1 := by omega
    rw [e, List.replicate_succ, List.replicate_succ, List.cons_append, List.cons_append, p257_pair, ih]
    simp [List.replicate_succ]
theorem p257_rep1 (h : Nat) {c : Nat} (hc : c ≠ 34) (r : List Nat) : p257 (List.replicate (2 * h + 1) 34 ++ c :: r) = List.replicate h 34 := by
  induction h with
  | zero => simp [p257_stop hc]
  | succ h ih =>
    have e : 2 * (h + 1) + 1 = (2 * h + 1 + 1) + 1 := by omega
    rw [e, List.replicate_succ, List.replicate_succ, List.cons_append, List.cons_append, p257_pair, ih]
    simp [List.replicate_succ]
theorem tells_law {sg : Nat} (hs : sg ≠ 34) (k : Nat) (hk : k ≤ 1) : ∀ md : List Int, (∀ x ∈ md, 0 ≤ x) → p257 (quoted sg md ++ List.replicate k 34) = tells sg md (fstOdd md)
  | [], _ => by
    have : k = 0 ∨ k = 1 := by omega
    rcases this with rfl | rfl
    · simp [quoted, tells, fstOdd, glue, half, marks, p257]
    · simp [quoted, tells, fstOdd, glue, half, marks, p257, List.replicate_succ]
  | x :: r, hx => by
    have h0 : 0 ≤ x := hx x (.head _)
    have ih := tells_law hs k hk r fun y hy => hx y (.tail _ hy)
    have eq : quoted sg (x :: r) ++ List.replicate k 34 = List.replicate x.toNat 34 ++ sg :: (quoted sg r ++ List.replicate k 34) := by simp [quoted, marks]
    rw [eq]
    by_cases ho : x.fmod 2 = 1
    · have e : x.toNat = 2 * (x.fdiv 2).toNat + 1 := by rw [fmod2] at ho; rw [fdiv2]; omega
      rw [e, p257_rep1 _ hs]
      simp [tells, fstOdd, ho, glue, half, marks]
    · have e : x.toNat = 2 * (x.fdiv 2).toNat := by rw [fmod2] at ho; rw [fdiv2]; omega
      rw [e, p257_rep _ hs, ih]
      simp only [tells, fstOdd, if_neg ho, List.cons_append, List.take_succ_cons, List.map_cons]
      rw [glue_cons (by simp)]
      simp [half, marks]
theorem told_law {sg : Nat} (hs : sg ≠ 34) (k : Nat) (hk : k ≤ 1) {md : List Int} (hm : ∀ x ∈ md, 0 ≤ x) : told 32 34 (quoted sg md ++ List.replicate k 34) = S (tells sg md (fstOdd md)) := by
  unfold told
  rw [if_pos ⟨rfl, rfl⟩, tells_law hs k hk md hm]
theorem fstOdd_le : ∀ md : List Int, fstOdd md ≤ md.length
  | [] => Nat.le_refl _
  | x :: r => by
    have := fstOdd_le r
    unfold fstOdd
    split <;> simp <;> omega
theorem fstOdd_all {md : List Int} (h : fstOdd md = md.length) : ∀ x ∈ md, x.fmod 2 ≠ 1 := by
  induction md with
  | nil => intro x hx; cases hx
  | cons y r ih =>
    intro x hx
    unfold fstOdd at h
    split at h
    · simp at h
    · rcases List.mem_cons.mp hx with rfl | hx
      · assumption
      · exact ih (by simpa using h) x hx
/-- where all are even, the halves are told, each with its sign -/
theorem tells_all (sg : Nat) (md : List Int) : tells sg md md.length = glue [sg] (md.map half ++ [[]]) := by
  unfold tells
  rw [List.take_of_length_le (by simp)]
  simp [half, marks]
theorem half_free {sg : Nat} (hs : sg ≠ 34) (md : List Int) : ∀ p ∈ md.map half ++ [[]], sg ∉ p := by
  intro p hp
  rcases List.mem_append.mp hp with hp | hp
  · obtain ⟨x, _, rfl⟩ := List.mem_map.mp hp
    intro hm
    exact hs (List.eq_of_mem_replicate hm)
  · simp at hp; subst hp; simp
theorem half_len (x : Int) (h : 0 ≤ x) : ((half x).length : Int) = x.fdiv 2 := by
  unfold half marks
  rw [List.length_replicate, fdiv2]; omega
def nextRing (nr : List Int) : List Int := if fstOdd (made nr) = nr.length then (made nr).map (fun x => x.fdiv 2) else made nr
theorem half_lens (md : List Int) (h : ∀ x ∈ md, 0 ≤ x) : ((md.map half ++ [[]]).map fun p : List Nat => (p.length : Int)).take md.length = md.map fun x => x.fdiv 2 := by
  rw [List.map_append, List.take_append_of_le_length (by simp), List.take_of_length_le (by simp), List.map_map]
  refine List.map_congr_left fun x hx => half_len x (h x hx)
theorem range_snoc {α : Type} (f : Nat → α) (i : Nat) : (List.range (i + 1)).map f = (List.range i).map f ++ [f i] := by
  rw [List.range_succ, List.map_append]; rfl
theorem take_snoc {α : Type} (xs : List α) (d : α) {i : Nat} (h : i < xs.length) : xs.take (i + 1) = xs.take i ++ [xs.getD i d] := by
  rw [List.take_add_one]
  simp [h]
theorem made_len (ns : List Int) : (made ns).length = ns.length := by simp [made]
theorem made_get (ns : List Int) {i : Nat} (h : i < ns.length) : (made ns).getD i 0 = ab (dif ns i) := by simp [made, h]
theorem made_nonneg (ns : List Int) : ∀ x ∈ made ns, 0 ≤ x := by
  intro x hx
  obtain ⟨i, _, rfl⟩ := List.mem_map.mp hx
  exact ab_nonneg _
theorem getD_in {ns : List Int} {B : Int} (hb : ∀ x ∈ ns, 0 ≤ x ∧ x < B) (hB : 0 < B) (i : Nat) : 0 ≤ ns.getD i 0 ∧ ns.getD i 0 < B := by
  rw [List.getD_eq_getElem?_getD]
  by_cases h : i < ns.length
  · rw [List.getElem?_eq_getElem h]
    exact hb _ (List.getElem_mem h)
  · rw [List.getElem?_eq_none (by omega)]
    exact ⟨by simp, by simpa using hB⟩
theorem dif_in {ns : List Int} {B : Int} (hb : ∀ x ∈ ns, 0 ≤ x ∧ x < B) (hB : 0 < B) (i : Nat) : -B < dif ns i ∧ dif ns i < B := by
  have h1 := getD_in hb hB i
  have h2 := getD_in hb hB ((i + ns.length - 1) % ns.length)
  unfold dif; omega
theorem made_in {ns : List Int} {B : Int} (hb : ∀ x ∈ ns, 0 ≤ x ∧ x < B) (hB : 0 < B) : ∀ x ∈ made ns, 0 ≤ x ∧ x < B := by
  intro x hx
  obtain ⟨i, _, rfl⟩ := List.mem_map.mp hx
  have := dif_in hb hB i
  refine ⟨ab_nonneg _, ?_⟩
  unfold ab; split <;> omega
theorem word_mul (u d : Int) : (u * ab d).natAbs = (u * d).natAbs := by
  unfold ab; split
  · rw [Int.mul_neg, Int.natAbs_neg]
  · rfl
theorem mul_in {u d U B : Int} (hu : 0 ≤ u ∧ u ≤ U) (hd : -B < d ∧ d < B) : -(U * B) ≤ u * d ∧ u * d ≤ U * B := by
  have hB : 0 < B := by omega
  have h1 : u * d ≤ U * B := Int.le_trans (Int.mul_le_mul_of_nonneg_left (show d ≤ B by omega) hu.1) (Int.mul_le_mul_of_nonneg_right hu.2 (by omega))
  have h2 : u * -d ≤ U * B := Int.le_trans (Int.mul_le_mul_of_nonneg_left (show -d ≤ B by omega) hu.1) (Int.mul_le_mul_of_nonneg_right hu.2 (by omega))
  rw [Int.mul_neg] at h2
  omega
theorem words_eq (u : Int) (nr : List Int) {n : Nat} (h : n ≤ nr.length) : (List.range n).map (fun j => (word (u * (made nr).getD j 0).natAbs).toArray) = (List.range n).map (fun j => (word (u * dif nr j).natAbs).toArray) := by
  refine List.map_congr_left fun j hj => ?_
  rw [made_get nr (by have := List.mem_range.mp hj; omega), word_mul]
section
variable {prog : Program} {w : World} {A : Around} {E : Value → Shared → Prop} {s : Shared} {h₀ : Heap} {L : Addr} {news : List (Addr × Obj)} {l : Addr} {us : List Value} {ns : List Int} {c : Nat} {u : Tok} {Q : Value → Shared → Prop} {value slice : Expr}
theorem sum_le {B : Nat} : ∀ ls : List Nat, (∀ x ∈ ls, x ≤ B) → ls.sum ≤ ls.length * B
  | [], _ => by simp
  | x :: r, h => by
    have h1 := h x (.head _)
    have h2 := sum_le r fun y hy => h y (.tail _ hy)
    rw [List.sum_cons, List.length_cons, Nat.succ_mul]; omega
theorem quoted_len (sg : Nat) {md : List Int} {B : Nat} (hb : ∀ x ∈ md, 0 ≤ x ∧ x < (B : Int)) : (quoted sg md).length ≤ md.length * B := by
  unfold quoted
  rw [List.length_flatten, List.map_map]
  have := sum_le (B := B) (md.map (List.length ∘ fun x => marks x ++ [sg])) (by
    intro y hy
    obtain ⟨x, hx, rfl⟩ := List.mem_map.mp hy
    have := hb x hx
    simp only [Function.comp, marks, List.length_append, List.length_replicate, List.length_singleton]
    omega)
  simpa using this
theorem glue_len (c : Nat) : ∀ ls : List (List Nat), (glue [c] ls).length ≤ (ls.map List.length).sum + ls.length
  | [] => by simp [glue]
  | [x] => by simp [glue]
  | x :: y :: r => by
    have ih := glue_len c (y :: r)
    have e : glue [c] (x :: y :: r) = x ++ [c] ++ glue [c] (y :: r) := rfl
    rw [e]
    simp only [List.length_append, List.length_cons, List.map_cons, List.sum_cons, List.length_nil] at ih ⊢
    omega
theorem half_sum {xs : List Int} {B : Nat} (hb : ∀ x ∈ xs, 0 ≤ x ∧ x < (B : Int)) : ((xs.map half).map List.length).sum ≤ xs.length * B := by
  have := sum_le (B := B) ((xs.map half).map List.length) (by
    intro y hy
    obtain ⟨p, hp, rfl⟩ := List.mem_map.mp hy
    obtain ⟨x, hx, rfl⟩ := List.mem_map.mp hp
    have := hb x hx
    have h2 := half_len x this.1
    rw [fdiv2] at h2; omega)
  rw [List.length_map, List.length_map] at this
  exact this
theorem half_small {md : List Int} {B : Nat} (hb : ∀ x ∈ md, 0 ≤ x ∧ x < (B : Int)) : ∀ p ∈ md.map half ++ [[]], p.length ≤ B := by
  intro p hp
  rcases List.mem_append.mp hp with hp | hp
  · obtain ⟨x, hx, rfl⟩ := List.mem_map.mp hp
    have := hb x hx
    have h2 := half_len x this.1
    rw [fdiv2] at h2; omega
  · simp at hp; subst hp; simp
theorem join_quoted {D : Addr} {vs : List Value} {k sg : Nat} {md : List Int} {B : Nat} {x : Str} {t : Tok} (hx : x = S []) (N : News h₀ L s.heap news) (hm : (D, listOf vs.toArray k) ∈ news) (hi : SAre vs (md.map fun x => marks x ++ [sg])) (hb : ∀ x ∈ md, 0 ≤ x ∧ x < (B : Int)) (hz : md.length * B ≤ 16777216)
    (h : ∀ t' k, Q (.str (S (quoted sg md)) t') { s with toks := k }) : wpAny (model prog w) A (call (.builtin "str.join") [.str x t, .ref D]) Q E s := by
  refine join_eq [] hx N hm hi ?_ fun t' k => by rw [glue_nil]; exact h t' k
  have := quoted_len sg hb
  unfold quoted at this
  rw [List.length_flatten] at this
  simp only [List.length_nil, Nat.mul_zero, Nat.add_zero]
  omega
/-- xs[place], the place the comprehension's i-th -/
theorem item_cur (i : Nat) (N : News h₀ L s.heap news) (hm : (l, listOf us.toArray c) ∈ news) (hI : IntsAre us ns) (hi : i < ns.length) (hz : ns.length ≤ 64) (h : ∀ t, Q (.int (ns.getD i 0) t) s)
    (hs : subscripted slice false (.ref l) (.int (0 + (i : Int)) u) = operate [.ref l, .int (0 + (i : Int)) u] (getItem (.ref l) (.int (0 + (i : Int)) u)) := by with_unfolding_all rfl) :
    wpAny (model prog w) A (subscriptTail value slice (.ref l) (.int (0 + (i : Int)) u)) Q E s := by
  have hlen := hI.length
  obtain ⟨v, hv⟩ : ∃ v, us[i]? = some v := ⟨us[i]'(by omega), List.getElem?_eq_getElem (by omega)⟩
  obtain ⟨t, rfl, _⟩ := IntsAre.at' hI i v hv
  refine item_pos N hm (by omega) (by omega) ?_ (h t) hs
  have : (0 + (i : Int)).toNat = i := by omega
  rw [this]; exact hv
/-- xs[place - 1]: the one ahead in the ring -/
theorem item_prev (i : Nat) (N : News h₀ L s.heap news) (hm : (l, listOf us.toArray c) ∈ news) (hI : IntsAre us ns) (hi : i < ns.length) (hz : ns.length ≤ 64) (h : ∀ t, Q (.int (ns.getD ((i + ns.length - 1) % ns.length) 0) t) s)
    (hs : subscripted slice false (.ref l) (.int (0 + (i : Int) - 1) u) = operate [.ref l, .int (0 + (i : Int) - 1) u] (getItem (.ref l) (.int (0 + (i : Int) - 1) u)) := by with_unfolding_all rfl) :
    wpAny (model prog w) A (subscriptTail value slice (.ref l) (.int (0 + (i : Int) - 1) u)) Q E s := by
  have hlen := hI.length
  have hlt : (i + ns.length - 1) % ns.length < ns.length := Nat.mod_lt _ (by omega)
  obtain ⟨v, hv⟩ : ∃ v, us[(i + ns.length - 1) % ns.length]? = some v := ⟨us[(i + ns.length - 1) % ns.length]'(by omega), List.getElem?_eq_getElem (by omega)⟩
  obtain ⟨t, rfl, _⟩ := IntsAre.at' hI _ v hv
  by_cases h0 : i = 0
  · subst h0
    refine item_neg N hm (by omega) (by omega) (by omega) ?_ (h t) hs
    have e : (0 + ((0 : Nat) : Int) - 1 + (us.length : Int)).toNat = (0 + ns.length - 1) % ns.length := by
      rw [Nat.mod_eq_of_lt (by omega)]; omega
    rw [e]; exact hv
  · refine item_pos N hm (by omega) (by omega) ?_ (h t) hs
    have e : (0 + (i : Int) - 1).toNat = (i + ns.length - 1) % ns.length := by
      have : i + ns.length - 1 = (i - 1) + ns.length := by omega
      rw [this, Nat.add_mod_right, Nat.mod_eq_of_lt (by omega)]; omega
    rw [e]; exact hv
end
end Mine
namespace Mine
/-- numbers from 0 below B, i of them -/
def InRing (B : Int) (i : Nat) (ys : List Value) : Prop := ∃ zs, IntsAre ys zs ∧ zs.length = i ∧ ∀ z ∈ zs, 0 ≤ z ∧ z < B
theorem InRing.nil {B : Int} : InRing B 0 [] := ⟨[], .nil, rfl, by simp⟩
theorem InRing.snoc {B : Int} {i : Nat} {ys : List Value} {x : Int} {t : Tok} (h : InRing B i ys) (hB : 0 < B) : InRing B (i + 1) (ys ++ [.int (x.fmod B) t]) := by
  obtain ⟨zs, hzs, hzl, hzb⟩ := h
  refine ⟨_, hzs.append (.cons _ _ .nil), by simp [hzl], ?_⟩
  intro z hz
  rcases List.mem_append.mp hz with hz | hz
  · exact hzb z hz
  · obtain rfl : z = x.fmod B := by simpa using hz
    exact ⟨Int.fmod_nonneg_of_pos _ hB, Int.fmod_lt_of_pos _ hB⟩
theorem sign_in (x : Int) : 0 ≤ (35 + x.fmod 127).fmod 128 ∧ (35 + x.fmod 127).fmod 128 < 128 ∧ (35 + x.fmod 127).fmod 128 ≠ 34 := by
  have h1 := Int.fmod_nonneg_of_pos x (b := 127) (by decide)
  have h2 := Int.fmod_lt_of_pos x (b := 127) (by decide)
  generalize x.fmod 127 = y at *
  rw [Int.fmod_eq_emod_of_nonneg _ (by decide)]
  omega
/-- the greatest of numbers from 0 on -/
def topOf : List Int → Int
  | [] => 0
  | x :: r => if x < topOf r then topOf r else x
theorem topOf_nonneg : ∀ {r : List Int}, (∀ x ∈ r, 0 ≤ x) → 0 ≤ topOf r
  | [], _ => Int.le_refl _
  | x :: r, h => by
    have h1 := h x (.head _)
    have h2 := topOf_nonneg fun y hy => h y (.tail x hy)
    unfold topOf; split <;> omega
theorem le_topOf : ∀ {r : List Int}, ∀ x ∈ r, x ≤ topOf r
  | y :: r, x, h => by
    have := le_topOf (r := r)
    rcases List.mem_cons.mp h with rfl | h
    · unfold topOf; split <;> omega
    · have := this x h
      unfold topOf; split <;> omega
theorem topOf_mem : ∀ {r : List Int}, r ≠ [] → (∀ x ∈ r, 0 ≤ x) → topOf r ∈ r
  | [x], _, h => by
    have := h x (.head _)
    unfold topOf topOf
    rw [if_neg (by omega)]; exact .head _
  | x :: y :: r, _, h => by
    have ih := topOf_mem (r := y :: r) (by simp) fun z hz => h z (.tail x hz)
    unfold topOf
    split
    · exact .tail _ ih
    · exact .head _
theorem topOf_eq {r : List Int} {M : Int} (h : ∀ x ∈ r, 0 ≤ x) (h1 : M ∈ r) (h2 : ∀ x ∈ r, x ≤ M) : M = topOf r := by
  have a := le_topOf M h1
  have b := h2 _ (topOf_mem (by intro e; subst e; cases h1) h)
  omega
def betw (r : List Int) : List Int := r.filter fun x => decide (0 < x ∧ x < topOf r)
def code (r : List Int) : Int := (((List.range 4).filter fun k => decide (0 < r.getD k 0)).map fun k => (8 : Int) / 2 ^ k).sum
structure PSt where
  ring : List Int
  start : List Int
  since : Nat
  words : List (Array UInt8)
def stepP (p : PSt) : PSt :=
  { ring := nextRing p.ring
    start := if fstOdd (made p.ring) = p.ring.length then nextRing p.ring else p.start
    since := if fstOdd (made p.ring) = p.ring.length then 0 else p.since + 1
    words := if betw (nextRing p.ring) = [] then p.words ++ [(word (code (nextRing p.ring)).natAbs).toArray] else p.words }
def run (z : List Int) : Nat → PSt
  | 0 => ⟨z, z, 0, []⟩
  | n + 1 => stepP (run z n)
theorem nextRing_len (r : List Int) : (nextRing r).length = r.length := by
  unfold nextRing; split <;> simp [made_len]
theorem nextRing_in {ns : List Int} {B : Int} (hb : ∀ x ∈ ns, 0 ≤ x ∧ x < B) (hB : 0 < B) : ∀ x ∈ nextRing ns, 0 ≤ x ∧ x < B := by
  unfold nextRing
  split
  · intro x hx
    obtain ⟨y, hy, rfl⟩ := List.mem_map.mp hx
    have := made_in hb hB y hy
    rw [fdiv2]; omega
  · exact made_in hb hB
theorem run_ring {z : List Int} {B : Int} (hb : ∀ x ∈ z, 0 ≤ x ∧ x < B) (hB : 0 < B) : ∀ n, (run z n).ring.length = z.length ∧ (∀ x ∈ (run z n).ring, 0 ≤ x ∧ x < B) ∧ (run z n).start.length = z.length
  | 0 => ⟨rfl, hb, rfl⟩
  | n + 1 => by
    obtain ⟨h1, h2, h3⟩ := run_ring hb hB n
    refine ⟨by rw [run, stepP, nextRing_len, h1], by rw [run, stepP]; exact nextRing_in h2 hB, ?_⟩
    rw [run, stepP]
    dsimp only
    split
    · rw [nextRing_len, h1]
    · exact h3
theorem seq_ne_cell {h₀ h : Heap} {L a c : Addr} {news : List (Addr × Obj)} {o1 o2 : Obj} {v : Option Value} (N : News h₀ L h news) (h1 : (a, o1) ∈ news) (h2 : (c, o2) ∈ news) (e1 : ∀ v, o1.data ≠ .cell v) (e2 : o2.data = .cell v) : @Ne Nat a c := by
  intro q
  have q : a = c := q
  subst q
  have e := Option.some.inj ((N _ h1).1.symm.trans (N _ h2).1)
  have e : o1 = o2 := e
  rw [← e] at e2
  exact e1 _ e2
/-- two addresses are other ones, hidden from omega -/
def Off (a c : Nat) : Prop := a ≠ c
theorem Off.ne {a c : Nat} (h : Off a c) : a ≠ c := h
theorem list_no_cell (us : List Value) (c : Nat) : ∀ v, (listOf us.toArray c).data ≠ .cell v := by
  intro v hv; cases hv
section
open PySem.SeqAt PySem.Spec
variable {prog : Program} {w : World} {A : Around} {E : Value → Shared → Prop} {s : Shared} {Q : Value → Shared → Prop}
theorem eq_nil {l m : Addr} {vs : List Value} (hl : s.heap.IsList l vs.toArray) (hm : s.heap.IsList m #[]) (hu : A.units < cLine)
    (h : Q (.bool (decide (vs = []))) s) : wpAny (model prog w) A (compareOp .Eq (.ref l) (.ref m)) Q E s := by
  cases vs with
  | nil =>
    have := RcAt.lists (A := A) (s := s) (e := fun _ => true) hl hm (by simp) hu (fun j h1 _ => absurd h1 (by simp))
    exact this prog w E Q (by simpa using h)
  | cons v vs =>
    have := RcAt.lists_lengths (A := A) (s := s) hl hm (by simp) hu
    exact this prog w E Q (by simpa using h)
end
theorem filt_yes {ys : List Value} {ns : List Int} {i : Nat} {t : Tok} {p : Int → Bool} (h : IntsAre ys ((ns.take i).filter p)) (hi : i < ns.length) (hp : p (ns.getD i 0) = true) : IntsAre (ys ++ [.int (ns.getD i 0) t]) ((ns.take (i + 1)).filter p) := by
  rw [take_snoc _ 0 hi, List.filter_append, List.filter_cons, if_pos hp]
  exact h.append (.cons _ _ .nil)
theorem filt_no {ys : List Value} {ns : List Int} {i : Nat} {p : Int → Bool} (h : IntsAre ys ((ns.take i).filter p)) (hi : i < ns.length) (hp : ¬ p (ns.getD i 0) = true) : IntsAre ys ((ns.take (i + 1)).filter p) := by
  rw [take_snoc _ 0 hi, List.filter_append, List.filter_cons, if_neg hp]
  simpa using h
section
variable {prog : Program} {w : World} {A : Around} {E : Value → Shared → Prop} {s : Shared} {h₀ : Heap} {L : Addr} {m : Str → Option Value} {news : List (Addr × Obj)}
theorem add_made {l b : Addr} {vs ws : List Value} {c c' : Nat} {Q : Value → Shared → Prop} (F : Fr h₀ L s.heap m) (N : News h₀ L s.heap news) (m1 : (l, listOf vs.toArray c) ∈ news) (m2 : (b, listOf ws.toArray c') ∈ news) (hsz : vs.length + ws.length ≤ 1000)
    (h : ∀ D h', Fr h₀ L h' m → News h₀ L h' ((D, listOf (vs ++ ws).toArray 0) :: news) → (∀ p ∈ news, p.1 < D) → Q (.ref D) { s with heap := h' }) :
    wpAny (model prog w) A (binaryOp .Add (.ref l) (.ref b)) Q E s :=
  add_lists F N (isList_of N m1) (isList_of N m2) (fun h' F' N' => h _ h' F' N' fun p hp => Heap.lt_size (N p hp).1) (by rw [sizeLine_eq]; omega)
end
end Mine
namespace Mine
open PySem.Spec PySem.Calls
open LCg LCt
section
variable {prog : Program} {w : World} {A : Around} {E : Value → Shared → Prop} {s : Shared} {h₀ : Heap} {L : Addr} {m : Str → Option Value} {env : Env}
abbrev freshDict : Obj := { cls := .type "dict", data := .dict #[] }
abbrev freshCell : Obj := { cls := .type "cell", data := .cell none }
theorem lt1 (I : Nat) : I < I + 1 := Nat.lt_succ_self I
theorem lt2 (I : Nat) : I < I + 1 + 1 := Nat.lt_trans (lt1 I) (lt1 _)
theorem lt3 (I : Nat) : I < I + 1 + 1 + 1 := Nat.lt_trans (lt2 I) (lt1 _)
theorem newEnv_cell {M : Model} {scope : Scope} {globals : Addr} {cl : List (Str × Addr)} {qual : Str} {x y z : Str} {Q : Env → Shared → Prop} (hn : scope.names = [(z, .local), (x, .cell), (y, .free)])
    (h : Q { scope := scope, locals := s.heap.objs.size, globals := globals, cells := (x, (s.heap.push freshDict).objs.size) :: cl, qual := qual, func := none, code := env.code, frame := env.frame, builtins := env.builtins } { s with heap := (s.heap.push freshDict).push freshCell }) :
    wpAny M A (newFunctionEnv scope globals cl [] qual none .none (some env)) Q E s := by
  simp only [newFunctionEnv, Option.isSome_some, if_true, hn]
  refine wpAny_bind (wpAny_alloc ?_)
  refine wpAny_bind ?_
  simp only [List.forIn_cons, List.forIn_nil]
  refine wpAny_bind (wpAny_pure ?_)
  refine wpAny_bind (wpAny_bind (wpAny_alloc (wpAny_pure ?_)))
  refine wpAny_bind (wpAny_pure ?_)
  refine wpAny_pure ?_
  exact wpAny_bind (wpAny_pure (wpAny_pure h))
theorem fresh_ns {h : Heap} {C : Addr} (e : h.get? C = some freshDict) : h.Ns C (fun _ => none) := ⟨_, #[], _, e, rfl, by intro e he; simp at he, fun name => by simp [nsFind, findBy]⟩
/-- one turn of a comprehension over a range, its letter in a cell -/
def CellTurn (prog : Program) (w : World) (A : Around) (h₀ : Heap) (L : Addr) (m : Str → Option Value) (env : Env) (ct elt : Expr) (x : Str) (scope : Scope) (cl : List (Str × Addr)) (s : Shared) (a : Int) (n : Nat) (news : List (Addr × Obj)) (J : Nat → List Value → Prop) : Prop :=
  ∀ (i : Nat) (ys : List Value) (t : Tok) (I : Addr) (oI : Obj) (C : Addr) (oC : Obj) (K : Addr) (oK : Obj) (D : Addr) (h : Heap) (tk : Nat) (E' : Value → Shared → Prop), i < n → J i ys → oK.data = .cell (some (.int (a + (i : Int)) t)) → Fr h₀ L h m →
    News h₀ L h ((I, oI) :: (C, oC) :: (D, lst ys) :: (K, oK) :: news) → Off3 I C D ((K, oK) :: news) → ((@Ne Nat I C) ∧ (@Ne Nat I D) ∧ (@Ne Nat C D)) → (∀ p ∈ news, p.1 < I) → (@LT.lt Nat _ I D) ∧ (@LT.lt Nat _ D C) ∧ (@LT.lt Nat _ C K) →
    wpAny (model prog w) A (isTrue ct (compEnvC scope ((x, K) :: cl) C env) (eval ct (compEnvC scope ((x, K) :: cl) C env))) (fun ok s' => if ok = true then
      wpAny (model prog w) A (eval elt (compEnvC scope ((x, K) :: cl) C env)) (CompEnd h₀ L m { s with heap := h, toks := tk } I oI C oC D (lst ys) (fun _ => True) (fun y news' => news' = (K, oK) :: news ∧ J (i + 1) (ys ++ [y]))) E' s'
      else CompEnd h₀ L m { s with heap := h, toks := tk } I oI C oC D (lst ys) (fun _ => True) (fun _ news' => news' = (K, oK) :: news ∧ J (i + 1) ys) Value.none s') E' { s with heap := h, toks := tk }
def SrcC (prog : Program) (w : World) (A : Around) (h₀ : Heap) (L : Addr) (m : Str → Option Value) (env : Env) (ct elt : Expr) (x : Str) (scope : Scope) (cl : List (Str × Addr)) (Q : Value → Shared → Prop) (xv : Value) (s₁ : Shared) : Prop :=
  ∃ (r : Addr) (a b : Int) (t u v : Tok) (n : Nat) (news : List (Addr × Obj)) (J : Nat → List Value → Prop), xv = .ref r ∧ A.handled = none ∧ Fr h₀ L s₁.heap m ∧ News h₀ L s₁.heap news ∧ IsRange s₁.heap r a b 1 t u v ∧ Builtin.Range.small a b 1 = true ∧ Builtin.Range.rangeSize a b 1 = ((n : Nat) : Int) ∧ n ≤ sizeLine ∧
    J 0 [] ∧ ∀ s₂ : Shared, (∃ h, s₂ = { s₁ with heap := h }) → CellTurn prog w A h₀ L m env ct elt x scope cl s₂ a n news J ∧ ∀ ys D h tk, J n ys → Fr h₀ L h m → News h₀ L h ((D, lst ys) :: news) → (∀ p ∈ news, p.1 < D) → Q (.ref D) { s₂ with heap := h, toks := tk }
theorem ListComp_C {ct elt iter : Expr} {x y z : Str} {px : Pos} {scope : Scope} {cl : List (Str × Addr)} {pos : Pos} {Q : Value → Shared → Prop} (_F₀ : Fr h₀ L s.heap m)
    (hclos : closureFor scope env = pure cl) (hn : scope.names = [(z, .local), (x, .cell), (y, .free)]) (hzx : (x == z) = false) (hkind : scope.kind = .function)
    (h : wpAny (model prog w) A (eval iter env) (SrcC prog w A h₀ L m env ct elt x scope cl Q) E s)
    (hs : ∀ x, foldedSetIterable iter env x = pure x := by intro _; rfl) :
    wpAny (model prog w) A (eval (.ListComp elt [⟨.Name x px, iter, [ct], 0⟩] scope pos) env) Q E s := by
  have hnames : ∀ q ∈ scope.names, q.2 = .local → scope.names.lookup q.1 = some .local := by
    intro q hq hl
    rw [hn] at hq ⊢
    simp only [List.mem_cons, List.not_mem_nil, or_false] at hq
    rcases hq with rfl | rfl | rfl
    · simp [List.lookup]
    · cases hl
    · cases hl
  have hkx : (scope.names.map fun (q, k) => if (k == NameKind.free && env.scope.kind == .function && env.kindOf q == some .cell) then (q, NameKind.cell) else (q, k)).lookup x = some .cell := by
    rw [hn]
    simp [List.lookup, hzx]
  rw [eval_ListComp]
  refine wpAny_comprehension_free (use := none) rfl hs hclos hkind hnames (wpAny_mono h (fun xv s₁ h₁ => ?_) fun _ _ e => e)
  obtain ⟨r, a, b, t, u, v, n, news, J, rfl, hh, F, N, hr, hsm, hrn, hsz, hJ, R⟩ := h₁
  obtain ⟨turn, fin⟩ := R s₁ ⟨_, rfl⟩
  refine wpAny_pyIter_range hr hsm ?_
  rw [hrn]
  generalize hI : s₁.heap.objs.size = I
  generalize hH1 : s₁.heap.push { cls := .type "range_iterator", data := .fields #[rawInt a, rawInt (n : Int), rawInt 1] } = H1
  have zI : H1.objs.size = I + 1 := by rw [← hH1, Heap.size_push, hI]
  refine wpAny_newObj_type (newEnv_cell hn ?_)
  dsimp only
  generalize hH2 : H1.push { cls := .type "list", dict := none, data := .seq ([] : List Value).toArray } = H2
  have zD : H2.objs.size = I + 1 + 1 := by rw [← hH2, Heap.size_push, zI]
  generalize hH3 : H2.push freshDict = H3
  have zC : H3.objs.size = I + 1 + 1 + 1 := by rw [← hH3, Heap.size_push, zD]
  rw [zI, zD, zC]
  have up1 : ∀ b o, s₁.heap.get? b = some o → H1.get? b = some o := fun b o e => hH1 ▸ Heap.get?_push_of_some _ e
  have up2 : ∀ b o, H1.get? b = some o → H2.get? b = some o := fun b o e => hH2 ▸ Heap.get?_push_of_some _ e
  have up3 : ∀ b o, H2.get? b = some o → H3.get? b = some o := fun b o e => hH3 ▸ Heap.get?_push_of_some _ e
  have up4 : ∀ b o, H3.get? b = some o → (H3.push freshCell).get? b = some o := fun b o e => Heap.get?_push_of_some _ e
  have up : ∀ b o, s₁.heap.get? b = some o → (H3.push freshCell).get? b = some o := fun b o e => up4 _ _ (up3 _ _ (up2 _ _ (up1 _ _ e)))
  have gI : (H3.push freshCell).get? I = some { cls := .type "range_iterator", data := .fields #[rawInt a, rawInt (n : Int), rawInt 1] } := up4 _ _ (up3 _ _ (up2 _ _ (by rw [← hH1, ← hI]; exact Heap.get?_push_size _ rfl)))
  have gD : (H3.push freshCell).get? (I + 1) = some (lst []) := up4 _ _ (up3 _ _ (by rw [← hH2, ← zI]; exact Heap.get?_push_size _ rfl))
  have gC : (H3.push freshCell).get? (I + 1 + 1) = some freshDict := up4 _ _ (by rw [← hH3, ← zD]; exact Heap.get?_push_size _ rfl)
  have gK : (H3.push freshCell).get? (I + 1 + 1 + 1) = some freshCell := by rw [← zC]; exact Heap.get?_push_size _ rfl
  have below : ∀ p ∈ news, p.1 < I := fun p hp => hI ▸ Heap.lt_size (N p hp).1
  have hLI : @LT.lt Nat _ L I := hI ▸ F.ns.lt
  have fresh₀ : ∀ b, @LE.le Nat _ I b → h₀.get? b = none := fun b hb => by
    cases q : h₀.get? b with
    | none => rfl
    | some o => exact absurd (Heap.lt_size (F.keep b o q)) (Nat.not_lt.mpr (hI ▸ hb))
  have W := range_walks (prog := prog) (w := w) (I := I) hh a n
  have nLI : L ≠ I := Nat.ne_of_lt hLI
  have loop : ∀ s₃ : Shared, s₃ = { s₁ with heap := H3.push freshCell } →
      codeAny (model prog w) A (.compLoop (.ListComp elt [⟨.Name x px, iter, [ct], 0⟩] scope pos) 0 (.ref I) (.ref (I + 1)) (compEnvC scope ((x, I + 1 + 1 + 1) :: cl) (I + 1 + 1) env))
        (compPost (model prog w) A E none Q (.ref (I + 1)) (I + 1 + 1)) s₃ := by
    rintro s₃ rfl
    refine codeAny_compLoop_tests
      (fun k s' => ∃ h' tk i ys oK v0, s' = { s₁ with heap := h', toks := tk } ∧ i ≤ n ∧ k = n + 1 - i ∧ ys.length ≤ i ∧ IsRangeIter h' I (a + (i : Nat) * 1) ((n : Int) - (i : Nat)) 1 ∧ Fr h₀ L h' m ∧ h'.get? (I + 1 + 1) = some freshDict ∧ oK.data = .cell v0 ∧
        News h₀ L h' ((I + 1, lst ys) :: (I + 1 + 1 + 1, oK) :: news) ∧ J i ys) ?_ (n + 1)
      ⟨_, _, 0, [], freshCell, none, rfl, Nat.zero_le _, rfl, Nat.le_refl _, ?_, F.keeps up, gC, rfl, fun p hp => ?_, hJ⟩
    · rintro k s' ⟨h', tk, i, ys, oK, v0, rfl, hi, rfl, hyl, hst, F', gC', dK, N', hJ'⟩
      have offI : ∀ p ∈ (I + 1, lst ys) :: (I + 1 + 1 + 1, oK) :: news, p.1 ≠ I := fun p hp => by
        rcases List.mem_cons.mp hp with rfl | hp
        · exact Nat.succ_ne_self _
        · rcases List.mem_cons.mp hp with rfl | hp
          · exact Nat.ne_of_gt (lt3 I)
          · exact Nat.ne_of_lt (below p hp)
      by_cases hlt : i < n
      · refine W.item i _ _ _ hlt hst fun v h₂ tk₂ hPv hst₂ hk₂ => ?_
        obtain ⟨t', rfl⟩ := hPv
        have N₂ := news_but N' hk₂ offI
        have F₂ := fr_but F' hk₂ nLI (fresh₀ I (Nat.le_refl _))
        have gC₂ := hk₂ _ _ (by simpa using (Nat.ne_of_gt (lt2 I))) gC'
        have gK₂ := (N₂ (I + 1 + 1 + 1, oK) (by simp)).1
        refine wpAny_assign_Name (wpAny_storeName_cell (c := I + 1 + 1 + 1) hkind hkx (by simp [compEnvC, List.lookup]) ⟨oK, gK₂, dK⟩ fun h₃ hc₃ hs₃ => ?_)
        refine wpAny_tests_one ?_
        obtain ⟨oK', gK₃, dK'⟩ := hc₃
        have nK : ∀ b, @LT.lt Nat _ b (I + 1 + 1 + 1) → b ≠ I + 1 + 1 + 1 := fun b hb => Nat.ne_of_lt hb
        have F₃ : Fr h₀ L h₃ m := F₂.change hs₃ (Nat.ne_of_gt (Nat.lt_trans hLI (lt3 I))) (fresh₀ _ (Nat.le_of_lt (lt3 I)))
        have gI₃ := hs₃.extBut I _ (nK I (lt3 I)) hst₂
        have gC₃ := hs₃.extBut _ _ (nK (I + 1 + 1) (lt1 _)) gC₂
        have gD₃ := hs₃.extBut _ _ (nK (I + 1) (lt2 _)) (N₂ (I + 1, lst ys) (by simp)).1
        have N₃ : News h₀ L h₃ ((I, _) :: (I + 1 + 1, freshDict) :: (I + 1, lst ys) :: (I + 1 + 1 + 1, oK') :: news) := fun p hp => by
          simp only [List.mem_cons] at hp
          rcases hp with rfl | rfl | rfl | rfl | hp
          · exact ⟨gI₃, Nat.ne_of_gt hLI, fresh₀ _ (Nat.le_refl _)⟩
          · exact ⟨gC₃, Nat.ne_of_gt (Nat.lt_trans hLI (lt2 I)), fresh₀ _ (Nat.le_of_lt (lt2 I))⟩
          · exact ⟨gD₃, Nat.ne_of_gt (Nat.lt_trans hLI (lt1 I)), fresh₀ _ (Nat.le_of_lt (lt1 I))⟩
          · exact ⟨gK₃, Nat.ne_of_gt (Nat.lt_trans hLI (lt3 I)), fresh₀ _ (Nat.le_of_lt (lt3 I))⟩
          · have lt : @LT.lt Nat _ p.1 I := below p hp
            exact ⟨hs₃.extBut _ _ (nK _ (Nat.lt_trans lt (lt3 I))) (N₂ p (by simp [hp])).1, (N₂ p (by simp [hp])).2⟩
        have off₃ : Off3 I (I + 1 + 1) (I + 1) ((I + 1 + 1 + 1, oK') :: news) := Off3.of fun p hp => by
          rcases List.mem_cons.mp hp with rfl | hp
          · exact ⟨Nat.ne_of_gt (lt3 I), Nat.ne_of_gt (lt1 _), Nat.ne_of_gt (lt2 _)⟩
          · have lt : @LT.lt Nat _ p.1 I := below p hp
            exact ⟨Nat.ne_of_lt lt, Nat.ne_of_lt (Nat.lt_trans lt (lt2 I)), Nat.ne_of_lt (Nat.lt_trans lt (lt1 I))⟩
        refine wpAny_mono (turn i ys t' I _ (I + 1 + 1) freshDict (I + 1 + 1 + 1) oK' (I + 1) h₃ tk₂ _ hlt hJ' dK' F₃ N₃ off₃ ⟨Nat.ne_of_lt (lt2 I), Nat.ne_of_lt (lt1 I), Nat.ne_of_gt (lt1 _)⟩ below ⟨lt1 _, lt1 _, lt1 _⟩) (fun ok s₄ h₄ => ?_) fun _ _ e => e
        have hstep : ∀ h : Heap, h.get? I = some _ → IsRangeIter h I (a + ((i + 1 : Nat) : Int) * 1) ((n : Int) - ((i + 1 : Nat) : Int)) 1 := fun h e => e
        cases ok with
        | true =>
          simp only [if_true] at h₄ ⊢
          refine wpAny_mono h₄ (fun y s₅ h₅ => ?_) fun _ _ e => e
          obtain ⟨h₄, tk₄, news₄, rfl, F₄, N₄, off₄, _, rfl, hJ₄⟩ := h₅
          have zI4 := (N₄ _ (List.mem_cons_self)).1
          have zC4 := (N₄ (I + 1 + 1, freshDict) (by simp)).1
          have zD4 := (N₄ (I + 1, lst ys) (by simp)).1
          refine append_at (hsz := by show ys.toArray.size ≤ sizeLine; rw [List.size_toArray]; exact Nat.le_trans (Nat.le_trans hyl hi) hsz) zD4 fun h₅ hs₅ hD₅ => ?_
          refine ⟨n + 1 - (i + 1), by omega, h₅, tk₄, i + 1, ys ++ [y], oK', _, rfl, hlt, rfl, by rw [List.length_append, List.length_singleton]; exact Nat.succ_le_succ hyl, hstep _ (hs₅.extBut _ _ (Nat.ne_of_lt (lt1 I)) zI4),
            F₄.change hs₅ (Nat.ne_of_gt (Nat.lt_trans hLI (lt1 I))) (fresh₀ _ (Nat.le_of_lt (lt1 I))), hs₅.extBut _ _ (Nat.ne_of_gt (lt1 _)) zC4, dK', fun p hp => ?_, hJ₄⟩
          rcases List.mem_cons.mp hp with rfl | hp
          · exact ⟨hD₅.trans (congrArg some (lst_snoc ys y)), Nat.ne_of_gt (Nat.lt_trans hLI (lt1 I)), fresh₀ _ (Nat.le_of_lt (lt1 I))⟩
          · have nD : p.1 ≠ I + 1 := (off₄.mem p hp).2.2
            exact ⟨hs₅.extBut _ _ nD (N₄ p (by simp [hp])).1, (N₄ p (by simp [hp])).2⟩
        | false =>
          simp only [Bool.false_eq_true, if_false] at h₄ ⊢
          obtain ⟨h₅, tk₄, news₄, rfl, F₄, N₄, off₄, _, rfl, hJ₄⟩ := h₄
          exact ⟨n + 1 - (i + 1), by omega, h₅, tk₄, i + 1, ys, oK', _, rfl, hlt, rfl, Nat.le_succ_of_le hyl, hstep _ (N₄ _ (List.mem_cons_self)).1, F₄, (N₄ (I + 1 + 1, freshDict) (by simp)).1, dK', fun p hp => N₄ p (by simp only [List.mem_cons] at hp ⊢; simp [hp]), hJ₄⟩
      · obtain rfl : i = n := Nat.le_antisymm hi (Nat.not_lt.mp hlt)
        refine W.done _ _ _ hst fun h₂ tk₂ hk₂ => ?_
        have N₂ := news_but N' hk₂ offI
        have F₂ := fr_but F' hk₂ nLI (fresh₀ I (Nat.le_refl _))
        have gC₂ := hk₂ _ _ (by simpa using (Nat.ne_of_gt (lt2 I))) gC'
        refine ⟨_, fresh_ns gC₂, fun h'' hs'' => fin ys _ h'' tk₂ hJ' (F₂.change hs'' (Nat.ne_of_gt (Nat.lt_trans hLI (lt2 I))) (fresh₀ _ (Nat.le_of_lt (lt2 I)))) (fun p hp => ?_) fun p hp => Nat.lt_succ_of_lt (below p hp)⟩
        rcases List.mem_cons.mp hp with rfl | hp
        · exact ⟨hs''.extBut _ _ (Nat.ne_of_lt (lt1 _)) (N₂ _ (by simp)).1, (N₂ _ (by simp)).2⟩
        · have lt : @LT.lt Nat _ p.1 I := below p hp
          exact ⟨hs''.extBut _ _ (Nat.ne_of_lt (Nat.lt_trans lt (lt2 I))) (N₂ p (by simp [hp])).1, (N₂ p (by simp [hp])).2⟩
    · show IsRangeIter _ _ _ _ _
      simpa using gI
    · simp only [List.mem_cons] at hp
      rcases hp with rfl | rfl | hp
      · exact ⟨gD, Nat.ne_of_gt (Nat.lt_trans hLI (lt1 I)), fresh₀ _ (Nat.le_of_lt (lt1 I))⟩
      · exact ⟨gK, Nat.ne_of_gt (Nat.lt_trans hLI (lt3 I)), fresh₀ _ (Nat.le_of_lt (lt3 I))⟩
      · exact ⟨up _ _ (N p hp).1, (N p hp).2⟩
  exact codeAny_compStart_list (loop _ rfl) (W.self 0 _ _ _ (by show IsRangeIter _ _ _ _ _; simpa using gI) (loop _ rfl))
end
end Mine
namespace Mine
set_option maxRecDepth 100000 in
set_option maxHeartbeats 8000000 in
open_top hd for PySem.Challenge.rw_pm0003_01
end Mine
namespace Mine
def ApInv (x : Int) (n : Int) (v : Array UInt8) : Prop := 0 ≤ n ∧ word n.toNat ++ v.toList = word x.natAbs ∧ ∃ k, n < 16 ^ k ∧ v.size + k ≤ 10
theorem ap_start {x : Int} (h : -(2^40) < x ∧ x < 2^40) : ApInv x (if x < 0 then -x else x) #[] := by
  refine ⟨by omega, ?_, 10, by omega, by decide⟩
  have : (if x < 0 then -x else x).toNat = x.natAbs := by omega
  rw [this]; simp
theorem ap_pick_nat : ∀ k : Nat, k < 16 → KBy.picked #[65, 66, 67, 68, 69, 70, 71, 72, 73, 74, 75, 76, 77, 78, 79, 80] (some (k : Int)) (some ((k : Int) + 1)) = #[UInt8.ofNat (65 + k)] := by decide +kernel
theorem ap_pick {n : Int} (h : 0 ≤ n) : KBy.picked #[65, 66, 67, 68, 69, 70, 71, 72, 73, 74, 75, 76, 77, 78, 79, 80] (some (n.fmod 16)) (some (n.fmod 16 + 1)) = #[UInt8.ofNat (65 + n.toNat % 16)] := by
  obtain ⟨k, rfl⟩ := Int.eq_ofNat_of_zero_le h
  have := ap_pick_nat (k % 16) (Nat.mod_lt _ (by decide))
  have e : ((k : Int)).fmod 16 = ((k % 16 : Nat) : Int) := by rw [Int.fmod_eq_emod_of_nonneg _ (by decide)]; omega
  rw [e, this]; simp
theorem ap_add {x n : Int} {v : Array UInt8} (h : ApInv x n v) : (KBy.picked #[65, 66, 67, 68, 69, 70, 71, 72, 73, 74, 75, 76, 77, 78, 79, 80] (some (n.fmod 16)) (some (n.fmod 16 + 1))).size + v.size ≤ 16777216 := by
  rw [ap_pick h.1]
  obtain ⟨_, _, k, _, h⟩ := h
  show 1 + v.size ≤ _
  omega
theorem ap_turn {x n : Int} {v : Array UInt8} (h : ApInv x n v) (h0 : n ≠ 0) : ApInv x (n.fdiv 16) (KBy.picked #[65, 66, 67, 68, 69, 70, 71, 72, 73, 74, 75, 76, 77, 78, 79, 80] (some (n.fmod 16)) (some (n.fmod 16 + 1)) ++ v) := by
  rw [ap_pick h.1]
  obtain ⟨h1, h2, k, h3, h4⟩ := h
  rw [Int.fdiv_eq_ediv_of_nonneg _ (by decide)]
  refine ⟨by omega, ?_, ?_⟩
  · have e : (n / 16).toNat = n.toNat / 16 := by omega
    rw [e, ← h2, word_step (n := n.toNat) (by omega)]
    simp
  · cases k with
    | zero => simp at h3; omega
    | succ k =>
      refine ⟨k, ?_, ?_⟩
      · rw [Int.pow_succ] at h3; omega
      · simp; omega
theorem ap_less {x n : Int} {v : Array UInt8} (h : ApInv x n v) (h0 : n ≠ 0) : (n.fdiv 16).toNat < n.toNat := by
  have h1 := h.1
  rw [Int.fdiv_eq_ediv_of_nonneg _ (by decide)]
  omega
theorem ap_done {x n : Int} {v : Array UInt8} (h : ApInv x n v) (h0 : n = 0) : (word x.natAbs).toArray = v := by
  subst h0
  obtain ⟨_, h2, _⟩ := h
  rw [← h2]
  simp [word_zero]
local macro_rules | `(tactic| walk_at "subscriptTail Name Slice bytes ref") => `(tactic| (k_here; (with_reducible show wpAny _ _ (subscriptTail _ (Expr.Slice _ _ none _) (Value.bytes _ _) (Value.ref _)) _ _ _); (with_reducible rename Fr _ _ _ _ => F'); (with_reducible rename News _ _ _ _ => N'); (refine KBc.slice_K (s := ⟨_, _, _, _, _⟩) F' N' rfl (by constructor) (by constructor) (by decide) ?_); intro _ _ _ _ _ _))
local macro_rules | `(tactic| walk_at "binaryOp Add bytes bytes") => `(tactic| (k_here; (refine KBy.add_bytes (ap_add (by assumption)) ?_); intro _ _))
set_option maxRecDepth 100000 in
set_option maxHeartbeats 8000000 in
theorem int2ap1 {w : World} {h : Heap} {mg mb : Str → Option Value} (news : List (Addr × Obj)) (x : Int) (t : Tok) :
   CbClaim PySem.Challenge.rw_pm0003_01.row.prog w (hd.heap_39 w.params) hd.view_39 (looseW hd.view_39 []) (ExcName.means h) mg mb 53 news [] (-(2^40) < x ∧ x < 2^40) [.int x t] (fun t => .bytes (word x.natAbs).toArray t) := by
  k_fill
  w_top off
  unfold CbClaim CbLists CbRet
  intros
  rename_i hret
  k_with "state" => first | exact ap_start (by assumption) | exact ap_turn (by assumption) (by assumption)
  k_with "measure" => exact ap_less (by assumption) (by assumption)
  k_with "exec While Name cons nil" => k_while (fun _ n v => ApInv x n v) (fun _ n _ => n.toNat) "num" "val"
  refine wpAny_call ?_
  k_dflt cell_enter
  k_steps
  all_goals (rename ApInv _ _ _ => hI; rename _ = (0:Int) => h0; rw [← ap_done hI h0]; exact hret _ _ _ (by assumption) (by assumption))
end Mine
namespace Mine
set_option maxRecDepth 100000 in
set_option maxHeartbeats 8000000 in
theorem parse1 {w : World} {h : Heap} {mg mb : Str → Option Value} (news : List (Addr × Obj)) (x : Str) (t : Tok) (d e : Nat) (body : List Nat) :
   CbClaim PySem.Challenge.rw_pm0003_01.row.prog w (hd.heap_39 w.params) hd.view_39 (looseW hd.view_39 []) (ExcName.means h) mg mb 46 news [] (x.cps.toList = 50 :: 53 :: 55 :: d :: e :: body ∧ x.length ≤ 100000) [.str x t] (fun t => .str (told d e body) t) := by
  k_fill
  w_top off
  unfold CbClaim CbLists CbRet
  intros
  rename_i hB _ hK hN hT hk hx hdp hun hret
  k_with_none
  k_with "exec While Compare cons nil" => k_while (fun _ d i => 5 ≤ i ∧ i ≤ (x.length : Int) ∧ (d.length : Int) ≤ i ∧ x.length ≤ 100000 ∧ PEq x d i) (fun _ d i => x.length - i.toNat) "dirname" "i"
  k_with "state" => first | exact p_start hx | exact p_pair (by assumption) (by assumption) (by assumption) (by assumption) (by assumption) (by assumption) (by assumption) (by assumption) (by assumption) | exact p_other (by assumption) (by assumption) (by assumption) (by assumption) (by assumption) (by assumption) (by assumption)
  refine wpAny_call ?_
  k_dflt cell_enter
  k_steps
  all_goals first
    | exact absurd (p_code hx (by assumption)) id
    | exact cb_retS hret (p_none hx (by assumption)) (by assumption) (by assumption)
    | (refine cb_retS hret (p_told hx (by assumption) ?_) (by assumption) (by assumption); first
      | exact p_out (by assumption) (by assumption) (by assumption)
      | exact p_brk1 (by assumption) (by assumption) (by assumption) (by assumption) (by assumption)
      | exact p_brk2 (by assumption) (by assumption) (by assumption) (by assumption) (by assumption) (by assumption))
end Mine
namespace Mine
/-- what letters are worth -/
def wval (ks : List Int) : Int := ks.foldl (fun a n => 16 * a + (n - 65)) 0
theorem wval_snoc (ks : List Int) (n : Int) : wval (ks ++ [n]) = 16 * wval ks + (n - 65) := by
  unfold wval; rw [List.foldl_append]; rfl
theorem wval_word : ∀ (b x : Nat), x ≤ b → wval ((word x).map fun c => (c.toNat : Int)) = (x : Int)
  | b, 0, _ => by rw [word_zero]; rfl
  | 0, x + 1, h => by omega
  | b + 1, x + 1, h => by
    rw [word_step (by omega), List.map_append, List.map_cons, List.map_nil, wval_snoc, wval_word b ((x + 1) / 16) (by omega)]
    have : (UInt8.ofNat (65 + (x + 1) % 16)).toNat = 65 + (x + 1) % 16 := by
      rw [UInt8.toNat_ofNat']; omega
    rw [this]; omega
theorem word_letters : ∀ (b x : Nat), x ≤ b → ∀ n ∈ (word x).map fun c => (c.toNat : Int), 65 ≤ n ∧ n < 81
  | b, 0, _ => by rw [word_zero]; intro n hn; cases hn
  | 0, x + 1, h => by omega
  | b + 1, x + 1, h => by
    rw [word_step (by omega), List.map_append, List.map_cons, List.map_nil]
    intro n hn
    rcases List.mem_append.mp hn with hn | hn
    · exact word_letters b ((x + 1) / 16) (by omega) n hn
    · obtain rfl := List.mem_singleton.mp hn
      have : (UInt8.ofNat (65 + (x + 1) % 16)).toNat = 65 + (x + 1) % 16 := by
        rw [UInt8.toNat_ofNat']; omega
      rw [this]; omega
def WInv (x : Nat) (pre : List Int) (v : Int) : Prop := v = wval pre
theorem winv_step {x : Nat} {pre : List Int} {v n : Int} (h : WInv x pre v) : WInv x (pre ++ [n]) (16 * v + (n - 65)) := by
  unfold WInv at *; rw [wval_snoc, h]
section
variable {prog : Program} {w : World} {A : Around} {E : Value → Shared → Prop} {s : Shared} {Q : Value → Shared → Prop}
theorem abc_find : ∀ k : Nat, k < 16 → PySem.Builtin.Str.occurrences (Str.ofString "ABCDEFGHIJKLMNOP") ⟨#[65 + k]⟩ 0 (Str.ofString "ABCDEFGHIJKLMNOP").length 1 = [k] := by decide +kernel
theorem index_abc {n : Int} {t u : Tok} (h0 : 65 ≤ n ∧ n < 81) (h : Q (.int (n - 65) s.toks) { s with toks := s.toks + 1 }) :
    wpAny (model prog w) A (call (.builtin "str.index") [.str (Str.ofString "ABCDEFGHIJKLMNOP") t, .str ⟨#[n.toNat]⟩ u]) Q E s := by
  have ho := abc_find (n.toNat - 65) (by omega)
  rw [show 65 + (n.toNat - 65) = n.toNat by omega] at ho
  refine SC.index ho ?_
  rw [show ((n.toNat - 65 : Nat) : Int) = n - 65 by omega]
  exact h
end
local macro_rules | `(tactic| walk_at "call builtin:str.index") => `(tactic| (refine Hold.intro ?_))
local macro_rules | `(tactic| walk_at "call builtin:chr cons nil") => `(tactic| (refine Hold.intro ?_))
set_option maxRecDepth 100000 in
set_option maxHeartbeats 8000000 in
theorem lworth1 {w : World} {h : Heap} {mg mb : Str → Option Value} (news : List (Addr × Obj)) (x : Nat) (t : Tok) :
   CbClaim PySem.Challenge.rw_pm0003_01.row.prog w (hd.heap_39 w.params) hd.view_39 (looseW hd.view_39 []) (ExcName.means h) mg mb 60 news [] (x < 2^40) [.bytes (word x).toArray t] (fun t => .int (x : Int) t) := by
  k_fill
  w_top off
  unfold CbClaim CbLists CbRet
  intros
  rename_i hB _ hK hN hT hk hx hdp hun hret
  k_with_none
  k_with "pyIter bytes" => k_state (fun pre v => WInv x pre v) "worth"
  k_with "state" => first | exact rfl | exact winv_step (by assumption)
  refine wpAny_call ?_
  k_dflt cell_enter
  k_steps
  · have hl := word_letters x x (Nat.le_refl _) kN (by rw [kEq]; simp)
    refine Hold.out (chr_of_range kLo (by omega) ?_)
    k_steps
    refine Hold.out (index_abc hl ?_)
    k_steps
  · rename WInv _ _ _ => hI
    unfold WInv at hI
    rw [wval_word x x (Nat.le_refl _)] at hI
    exact ret_i hret hI (by assumption) (by assumption) (fun p hp => by simp [hp])
end Mine
namespace Mine
local macro_rules | `(tactic| cell_enter) => `(tactic| (refine' code_defC ?k1 ?k2 ?k3 ?k4 ?k5 ?kA ?kF ?kK ?k6 ?k7 ?k8 ?k9 ?kB ?kD ?_ ?c2 ?c3 ?c4; (case kA => exact rfl); (case kF => exact rfl); (case kK => assumption); (case k1 => k_asm); (case k2 => k_asm); (case k3 => k_asm); (case k4 => k_asm); (case k5 => k_asm); (case k6 => k_is); (case k7 => k_is); (case k8 => ktr_room); (case k9 => exact BindsTo.of_eq rfl); (case kB => exact rfl); (case kD => decide +kernel); (case c2 => exact rfl); (case c3 => exact rfl); (case c4 => exact rfl); k_whole; intro g' L' h' tk' cells' FG' F' N' Y' B' X' T' l1; (try k_lt l1); k_cells Y'; (try simp only [List.cons_append, List.nil_append] at N'); (try dsimp only); (try k_lift B'); (try k_fold)))
section
local macro_rules | `(tactic| walk_at "eval ListComp") => `(tactic| (k_here; k_dflt (refine LCt.ListComp_T (F₀ := by k_asm) (by with_unfolding_all rfl) (by decide) (by rfl) (by decide) (by rfl) ?_)))
local macro_rules | `(tactic| walk_at "CompEnd") => `(tactic| (k_here; k_dflt (refine LCg.CompEnd.intro (by assumption) (by assumption) _ (fun p hp => hp) (by with_unfolding_all assumption) (by lcg_src) ?_)))
local macro_rules | `(tactic| walk_at "CompSrcT") => `(tactic| (refine Hold.intro ?_))
def figs : List Int := [4, 3, 2, 1, 0]
def digs (x : Int) (i : Nat) : List Int := ((figs.take i).filter fun k => decide ((16 : Int) ^ k.toNat ≤ x)).map fun k => 65 + (x.fdiv (16 ^ k.toNat)).fmod 16
theorem figs_in : ∀ k ∈ figs, 0 ≤ k ∧ k ≤ 4 := by decide
theorem digs_yes {ys : List Value} {x : Int} {i : Nat} {t : Tok} (h : IntsAre ys (digs x i)) (hi : i < figs.length) (hp : (16 : Int) ^ (figs.getD i 0).toNat ≤ x) : IntsAre (ys ++ [.int (65 + (x.fdiv (16 ^ (figs.getD i 0).toNat)).fmod 16) t]) (digs x (i + 1)) := by
  unfold digs
  rw [List.take_add_one, List.filter_append, List.map_append]
  have e : figs[i]?.toList = [figs.getD i 0] := by simp [hi]
  rw [e, List.filter_cons, if_pos (by simpa using hp)]
  exact h.append (.cons _ _ .nil)
theorem digs_no {ys : List Value} {x : Int} {i : Nat} (h : IntsAre ys (digs x i)) (hi : i < figs.length) (hp : ¬ (16 : Int) ^ (figs.getD i 0).toNat ≤ x) : IntsAre ys (digs x (i + 1)) := by
  unfold digs
  rw [List.take_add_one, List.filter_append, List.map_append]
  have e : figs[i]?.toList = [figs.getD i 0] := by simp [hi]
  rw [e, List.filter_cons, if_neg (by simpa using hp), List.filter_nil, List.map_nil, List.append_nil]
  exact h
theorem digs_word {x : Int} (h : 0 ≤ x ∧ x < 1048576) : byteArr (digs x 5) = (word x.natAbs).toArray := by
  have go : ∀ k : Nat, k ≤ 5 → digs x 5 = lawDigits x k → ¬ (16 : Int) ^ k ≤ x → (k = 0 ∨ (16 : Int) ^ (k - 1) ≤ x) → byteArr (digs x 5) = (word x.natAbs).toArray := fun k _ e h1 h2 => by rw [e]; exact lw_word h.1 k h1 h2
  have e4 : (16 : Int) ^ (4 : Nat) = 65536 := by decide
  have e3 : (16 : Int) ^ (3 : Nat) = 4096 := by decide
  have e2 : (16 : Int) ^ (2 : Nat) = 256 := by decide
  have e1 : (16 : Int) ^ (1 : Nat) = 16 := by decide
  have e0 : (16 : Int) ^ (0 : Nat) = 1 := by decide
  have e5 : (16 : Int) ^ (5 : Nat) = 1048576 := by decide
  have d : digs x 5 = (([4, 3, 2, 1, 0] : List Int).filter fun k => decide ((16 : Int) ^ k.toNat ≤ x)).map fun k => 65 + (x.fdiv (16 ^ k.toNat)).fmod 16 := rfl
  have t4 : (4 : Int).toNat = 4 := rfl
  have t3 : (3 : Int).toNat = 3 := rfl
  have t2 : (2 : Int).toNat = 2 := rfl
  have t1 : (1 : Int).toNat = 1 := rfl
  have t0 : (0 : Int).toNat = 0 := rfl
  have a4 : decide ((16 : Int) ^ (4 : Int).toNat ≤ x) = decide (65536 ≤ x) := by rw [t4, e4]
  have a3 : decide ((16 : Int) ^ (3 : Int).toNat ≤ x) = decide (4096 ≤ x) := by rw [t3, e3]
  have a2 : decide ((16 : Int) ^ (2 : Int).toNat ≤ x) = decide (256 ≤ x) := by rw [t2, e2]
  have a1 : decide ((16 : Int) ^ (1 : Int).toNat ≤ x) = decide (16 ≤ x) := by rw [t1, e1]
  have a0 : decide ((16 : Int) ^ (0 : Int).toNat ≤ x) = decide (1 ≤ x) := by rw [t0, e0]
  by_cases h4 : 65536 ≤ x
  · refine go 5 (by decide) ?_ (by rw [e5]; omega) (.inr (by rw [show 5 - 1 = 4 from rfl, e4]; exact h4))
    rw [d]; simp only [List.filter_cons, a4, a3, a2, a1, a0, decide_eq_true h4, decide_eq_true (show 4096 ≤ x by omega), decide_eq_true (show 256 ≤ x by omega), decide_eq_true (show 16 ≤ x by omega), decide_eq_true (show 1 ≤ x by omega), if_true, List.filter_nil]; rfl
  by_cases h3 : 4096 ≤ x
  · refine go 4 (by decide) ?_ (by rw [e4]; omega) (.inr (by rw [show 4 - 1 = 3 from rfl, e3]; exact h3))
    rw [d]; simp only [List.filter_cons, a4, a3, a2, a1, a0, decide_eq_false h4, decide_eq_true (show 4096 ≤ x by omega), decide_eq_true (show 256 ≤ x by omega), decide_eq_true (show 16 ≤ x by omega), decide_eq_true (show 1 ≤ x by omega), if_true, List.filter_nil, Bool.false_eq_true, if_false]; rfl
  by_cases h2 : 256 ≤ x
  · refine go 3 (by decide) ?_ (by rw [e3]; omega) (.inr (by rw [show 3 - 1 = 2 from rfl, e2]; exact h2))
    rw [d]; simp only [List.filter_cons, a4, a3, a2, a1, a0, decide_eq_false h4, decide_eq_false h3, decide_eq_true (show 256 ≤ x by omega), decide_eq_true (show 16 ≤ x by omega), decide_eq_true (show 1 ≤ x by omega), if_true, List.filter_nil, Bool.false_eq_true, if_false]; rfl
  by_cases h1 : 16 ≤ x
  · refine go 2 (by decide) ?_ (by rw [e2]; omega) (.inr (by rw [show 2 - 1 = 1 from rfl, e1]; exact h1))
    rw [d]; simp only [List.filter_cons, a4, a3, a2, a1, a0, decide_eq_false h4, decide_eq_false h3, decide_eq_false h2, decide_eq_true (show 16 ≤ x by omega), decide_eq_true (show 1 ≤ x by omega), if_true, List.filter_nil, Bool.false_eq_true, if_false]; rfl
  by_cases h0 : 1 ≤ x
  · refine go 1 (by decide) ?_ (by rw [e1]; omega) (.inr (by rw [show 1 - 1 = 0 from rfl, e0]; exact h0))
    rw [d]; simp only [List.filter_cons, a4, a3, a2, a1, a0, decide_eq_false h4, decide_eq_false h3, decide_eq_false h2, decide_eq_false h1, decide_eq_true (show 1 ≤ x by omega), if_true, List.filter_nil, Bool.false_eq_true, if_false]; rfl
  · refine go 0 (by decide) ?_ (by rw [e0]; omega) (.inl rfl)
    rw [d]; simp only [List.filter_cons, a4, a3, a2, a1, a0, decide_eq_false h4, decide_eq_false h3, decide_eq_false h2, decide_eq_false h1, decide_eq_false h0, List.filter_nil, Bool.false_eq_true, if_false]; rfl
theorem digs_b (x : Int) (k : Nat) : KBa.In (digs x k) := fun n h => by
  unfold digs at h
  obtain ⟨j, _, rfl⟩ := List.mem_map.mp h
  have h1 := Int.fmod_nonneg_of_pos (x.fdiv (16 ^ j.toNat)) (b := 16) (by decide)
  have h2 := Int.fmod_lt_of_pos (x.fdiv (16 ^ j.toNat)) (b := 16) (by decide)
  omega
theorem digs_len (x : Int) : (digs x 5).length ≤ 16777216 := by
  unfold digs
  rw [List.length_map]
  exact Nat.le_trans (List.length_filter_le _ _) (by decide)
local macro_rules | `(tactic| walk_at "call type:bytes cons nil") => `(tactic| (k_here; (with_reducible show wpAny _ _ (call (Value.type "bytes") [Value.ref _]) _ _ _); k_dflt (refine' KBa.make_K ?kbaF ?kbaN ?kbah ?kbal ?kbai ?kbar ?kban ?_; (case kbaF => k_asm); (case kbaN => k_asm); (case kbah => rfl); (case kbal => exact isList_of (by k_asm) (by k_mem)); (case kbai => assumption); (case kbar => exact digs_b _ _); (case kban => exact digs_len _)); intro _ _ _ F' N' kbaIn))
set_option maxRecDepth 100000 in
set_option maxHeartbeats 8000000 in
theorem lword1 {w : World} {h : Heap} {mg mb : Str → Option Value} (news : List (Addr × Obj)) (x : Int) (t : Tok) :
   CbClaim PySem.Challenge.rw_pm0003_01.row.prog w (hd.heap_39 w.params) hd.view_39 (looseW hd.view_39 []) (ExcName.means h) mg mb 65 news [] (0 ≤ x ∧ x < 1048576) [.int x t] (fun t => .bytes (word x.natAbs).toArray t) := by
  k_fill
  w_top off
  unfold CbClaim CbLists CbRet
  intros
  rename_i hB _ hK hN hT hk hx hdp hun hret
  k_with_none
  refine wpAny_call ?_
  k_dflt cell_enter
  k_steps
  refine Hold.out (LCt.CompSrcT.ledger rfl (by assumption) (by assumption) (by k_mem) (Nat.le_of_ble_eq_true rfl) (fun g => ?_))
  refine compT_inv (n := 5) (fun i ys => IntsAre ys (digs x i)) ?turn ?done 5 0 [] rfl IntsAre.nil
  case turn =>
    rintro i ys v I oI C oC D m₂ h tk E' hi hys hv0 hC hv F N off ne
    obtain ⟨tv, rfl, hi'⟩ := IntsAre.at' (ns := figs) (.cons _ _ (.cons _ _ (.cons _ _ (.cons _ _ (.cons _ _ .nil))))) i v (by simpa using hv0)
    have hkf : 0 ≤ figs.getD i 0 ∧ figs.getD i 0 ≤ 4 := figs_in _ (by rw [List.getD_eq_getElem?_getD, List.getElem?_eq_getElem hi']; exact List.getElem_mem _)
    have hpos : (0 : Int) < 16 ^ (figs.getD i 0).toNat := Int.pow_pos (by decide)
    have hne : (16 : Int) ^ (figs.getD i 0).toNat ≠ 0 := Int.ne_of_gt hpos
    k_steps
    · exact digs_yes hys hi' (by assumption)
    · exact digs_no hys hi' (by assumption)
  case done =>
    rintro ys hys
    k_steps
    exact ret_y hret (digs_word hx) (by assumption) (by assumption) (fun p hp => by simp [hp])
end
section
local macro_rules | `(tactic| walk_at "CompEnd") => `(tactic| (k_here; k_dflt (
  (refine LCg.CompEnd.intro (by assumption) (by assumption) _ (fun p hp => hp) (by with_unfolding_all assumption) (by lcg_src) ?_))))
local macro_rules | `(tactic| k_all) => `(tactic| assumption)
local macro_rules | `(tactic| walk_at "exec For Name Call cons nil") => `(tactic| (k_here; k_dflt (refine For_in ?_)))
local macro_rules | `(tactic| walk_at "pyIter ref") => `(tactic| (k_here; (with_reducible show wpAny _ _ (pyIter (Value.ref _)) (fun it s₂ => ForIn _ _ _ _ _ _ _ _ _ it s₂) _ _); (rename IsRange _ _ _ _ _ _ _ _ => rgX); k_dflt (refine' iter_rangeF ?k1 ?k2 rgX ?k3 ?k4 ?_; (case k1 => k_asm); (case k2 => k_asm); (case k3 => first | decide | exact small_one (by omega) (by omega) (by omega) (by omega)); (case k4 => first | rfl | exact rangeSize_nat _ _)); intro I' h' F' N' lt'; (have lt2' := lt'); (k_lt lt2')))
local macro_rules | `(tactic| walk_at "eval ListComp") => `(tactic| (k_here; k_dflt (refine LCt.ListComp_T (F₀ := by k_asm) (by with_unfolding_all rfl) (by decide) (by rfl) (by decide) (by rfl) ?_)))
local macro_rules | `(tactic| walk_at "ForEnd") => `(tactic| ((with_reducible show ForEnd _ _ _ _ _ _ _ _ _ (Flow.ret _) _); dsimp only [ForEnd]))
local macro_rules | `(tactic| k_ne) => `(tactic| (refine neN ?_; (try dsimp only); omega))
local macro_rules | `(tactic| walk_at "call builtin:len cons nil") => `(tactic| (refine Hold.intro ?_))
set_option maxRecDepth 100000 in
set_option maxHeartbeats 8000000 in
theorem fodd1 {w : World} {h : Heap} {mg mb : Str → Option Value} (news : List (Addr × Obj)) (n : Nat) (t : Tok) (l : Addr) (vs : List Value) (c : Nat) (ns : List Int) (hI : IntsAre vs ns) (hl : ns.length = 3 ∨ ns.length = 4) :
   CbClaim PySem.Challenge.rw_pm0003_01.row.prog w (hd.heap_39 w.params) hd.view_39 (looseW hd.view_39 []) (ExcName.means h) mg mb 77 ((l, listOf vs.toArray c) :: news) [] (n ≤ 63) [.ref l, .int n t] (fun t => .int (fofrom ns.length ns n ns.length 0) t) := by
  k_fill
  w_top off
  unfold CbClaim CbLists CbRet
  intros
  rename_i hB _ hK hN hT hk hx hdp hun hret
  k_with_none
  refine wpAny_call ?_
  k_dflt cell_enter
  rename_i g' L' h' tk' FG' F' B' X' T' l1 o' o2' o3' o4' d1' d2' d3' d4' N'
  have kMark := kstMark
  have lA : AllLt L' news := l1.2
  have nP : ∀ p ∈ news, p.1 ≠ L' + 1 + 1 + 1 := allNe_of lA (Nat.le_add_right _ 3)
  have nP4 : ∀ p ∈ news, p.1 ≠ L' + 1 + 1 + 1 + 1 := allNe_of lA (Nat.le_add_right _ 4)
  have hvs : (vs.toArray.size : Int) = (ns.length : Int) := by rw [List.size_toArray, hI.length]
  generalize hsz : ns.length = sz at *
  k_steps
  refine Hold.out (PySem.Calls.call_len_list (isList_of (by assumption) (by k_mem)) (by rw [hvs]; omega) ?_)
  rw [hvs]
  k_steps
  rename_i I' h'' F'' N'' lt' lt2
  rename Obj => o5'
  have hoff : ∀ o : Obj, ∀ p ∈ (L' + 1 + 1 + 1 + 1, o) :: (L' + 1 + 1 + 1, o5') :: (L' + 1 + 1, o3') :: (L' + 1, o4') :: (l, listOf vs.toArray c) :: news, p.1 ≠ I' := by
    intro o p hp
    rcases List.mem_cons.mp hp with rfl | hp
    · exact Nat.ne_of_lt lt2.1
    · exact Nat.ne_of_lt (lt' p (List.mem_cons_of_mem _ hp))
  refine ForRest.inv (h₀ := g') (L := L') (fun (o : Obj) => (L' + 1 + 1 + 1 + 1, o) :: (L' + 1 + 1 + 1, o5') :: (L' + 1 + 1, o3') :: (L' + 1, o4') :: (l, listOf vs.toArray c) :: news) (fun i k o m => (∃ v, o.data = .cell v) ∧ (0 ≤ i ∧ i + k = sz) ∧ fofrom sz ns n k i = fofrom sz ns n sz 0) rfl (by passes_own) ?turn ?done sz 0 o' _ _ _ ⟨⟨_, d1'⟩, ⟨by decide, by omega⟩, rfl⟩ (fun p hp => Nat.ne_of_lt (lt' p hp)) F'' N''
  case turn =>
    rintro i k o m h t tk ⟨⟨v, hv⟩, ⟨hi, hk5⟩, hfo⟩ off F₁ N₁
    k_steps
    rename IsRange _ _ _ _ _ _ _ _ => rg
    refine LCt.CompSrcT.range (n := n + 1) rfl (by assumption) (by assumption) rg (small_one (by decide) (by decide) (by omega) (by omega)) (by rw [rangeSize_nat]; omega) (by rw [sizeLine_eq]; omega) (fun g => ?_)
    refine compT_inv (n := n + 1) (fun j ys => IntsAre ys (fsel sz ns i n j)) ?turn2 ?done2 (n + 1) 0 [] (by omega) IntsAre.nil
    case turn2 =>
      rintro j ys v I oI C oC D m₂ h tk E' hj hzs ⟨tv, rfl⟩ hC hv F N off ne
      k_steps
      all_goals first | exact fsel_yes hzs (by assumption) | exact fsel_no hzs (by assumption)
    case done2 =>
      rintro ys hzs
      k_steps
      · exact ret_i hret ((fo_yes (by assumption)).symm.trans hfo) (by assumption) (by assumption) (fun p hp => by simp only [List.mem_cons] at hp ⊢; simp [hp])
      · exact ForEnd.next _ (by assumption) (by assumption) (fun p hp => List.Mem.tail _ hp) (hoff _) ⟨⟨_, by assumption⟩, ⟨by omega, by omega⟩, (fo_no (by assumption)).symm.trans hfo⟩
  case done => 
    rintro i o m h tk ⟨⟨v, hv⟩, ⟨hi, hk5⟩, hfo⟩ F N
    k_steps
    exact ret_i hret (by rw [← hfo]; show (sz : Int) = i; omega) (by assumption) (by assumption) (fun p hp => by simp only [List.mem_cons] at hp ⊢; simp [hp])
end
section
/-- the least -/
def lowOf : List Int → Int
  | [] => 0
  | [x] => x
  | x :: y :: r => if lowOf (y :: r) < x then lowOf (y :: r) else x
theorem lowOf_mem : ∀ {r : List Int}, r ≠ [] → lowOf r ∈ r
  | [], h => absurd rfl h
  | [x], _ => .head _
  | x :: y :: r, _ => by
    have ih := lowOf_mem (r := y :: r) (by simp)
    unfold lowOf
    split
    · exact .tail _ ih
    · exact .head _
theorem lowOf_le : ∀ {r : List Int}, ∀ x ∈ r, lowOf r ≤ x
  | [z], x, h => by
    obtain rfl := List.mem_singleton.mp h
    exact Int.le_refl _
  | z :: y :: r, x, h => by
    have ih := lowOf_le (r := y :: r)
    unfold lowOf
    rcases List.mem_cons.mp h with rfl | h
    · split <;> omega
    · have := ih x h
      split <;> omega
theorem lowOf_eq {r : List Int} {m : Int} (h1 : m ∈ r) (h2 : ∀ x ∈ r, m ≤ x) : m = lowOf r := by
  have a := lowOf_le m h1
  have b := h2 _ (lowOf_mem (by intro e; subst e; cases h1))
  omega
def lats (M : Int) (i : Nat) : List Int := ((List.range i).filter fun k => decide ((2 : Int) ^ k ≤ M)).map fun (k : Nat) => 4 * (k : Int) + 4
theorem lats_yes {ys : List Value} {M : Int} {i : Nat} {t : Tok} (h : IntsAre ys (lats M i)) (hp : (2 : Int) ^ (0 + (i : Int)).toNat ≤ M) : IntsAre (ys ++ [.int (4 * (0 + (i : Int)) + 4) t]) (lats M (i + 1)) := by
  rw [Int.zero_add] at hp ⊢
  unfold lats
  rw [List.range_succ, List.filter_append, List.map_append, List.filter_cons, if_pos (by simpa using hp)]
  exact h.append (.cons _ _ .nil)
theorem lats_no {ys : List Value} {M : Int} {i : Nat} (h : IntsAre ys (lats M i)) (hp : ¬ (2 : Int) ^ (0 + (i : Int)).toNat ≤ M) : IntsAre ys (lats M (i + 1)) := by
  rw [Int.zero_add] at hp
  unfold lats
  rw [List.range_succ, List.filter_append, List.map_append, List.filter_cons, if_neg (by simpa using hp), List.filter_nil, List.map_nil, List.append_nil]
  exact h
theorem lats_pos {M : Int} {i : Nat} : ∀ x ∈ lats M i, 0 ≤ x := by
  intro x hx
  obtain ⟨k, _, rfl⟩ := List.mem_map.mp hx
  omega
theorem lats_len (M : Int) (i : Nat) : (lats M i).length ≤ i := by
  unfold lats
  rw [List.length_map]
  exact Nat.le_trans (List.length_filter_le _ _) (by simp)
/-- the latest turn -/
def latest (zs : List Int) : Int := if zs.length = 3 then (if topOf zs - lowOf zs > 1 then topOf zs - lowOf zs else 1) else topOf (1 :: lats (topOf zs) 6)
local macro_rules | `(tactic| walk_at "CompEnd") => `(tactic| (k_here; k_dflt (
  (refine LCg.CompEnd.intro (by assumption) (by assumption) _ (fun p hp => hp) (by with_unfolding_all assumption) (by lcg_src) ?_))))
local macro_rules | `(tactic| k_all) => `(tactic| assumption)
local macro_rules | `(tactic| walk_at "eval ListComp") => `(tactic| (k_here; k_dflt (refine LCt.ListComp_T (F₀ := by k_asm) (by with_unfolding_all rfl) (by decide) (by rfl) (by decide) (by rfl) ?_)))
local macro_rules | `(tactic| walk_at "CompSrcT") => `(tactic| (refine Hold.intro ?_))
local macro_rules | `(tactic| walk_at "call builtin:max") => `(tactic| (refine Hold.intro ?_))
local macro_rules | `(tactic| walk_at "call builtin:min") => `(tactic| (refine Hold.intro ?_))
local macro_rules | `(tactic| walk_at "call builtin:len cons nil") => `(tactic| (refine Hold.intro ?_))
local macro_rules | `(tactic| walk_at "binaryOp Add ref ref") => `(tactic| (refine Hold.intro ?_))
set_option maxRecDepth 100000 in
set_option maxHeartbeats 8000000 in
theorem llatest1 {w : World} {h : Heap} {mg mb : Str → Option Value} (news : List (Addr × Obj)) (l : Addr) (vs : List Value) (c : Nat) (zs : List Int) (hI : IntsAre vs zs) (hl : zs.length = 3 ∨ zs.length = 4) (hb : ∀ x ∈ zs, 0 ≤ x ∧ x < 128) :
   CbClaim PySem.Challenge.rw_pm0003_01.row.prog w (hd.heap_39 w.params) hd.view_39 (looseW hd.view_39 []) (ExcName.means h) mg mb 87 ((l, listOf vs.toArray c) :: news) [] True [.ref l] (fun t => .int (latest zs) t) := by
  k_fill
  w_top off
  unfold CbClaim CbLists CbRet
  intros
  rename_i hB _ hK hN hT hk hx hdp hun hret
  k_with_none
  refine wpAny_call ?_
  k_dflt cell_enter
  have kMark := kstMark
  k_steps
  refine Hold.out (PySem.Calls.call_len_list (isList_of (by assumption) (by k_mem)) (by rw [List.size_toArray, hI.length]; omega) ?_)
  rw [show (vs.toArray.size : Int) = (zs.length : Int) by rw [List.size_toArray, hI.length]]
  rcases hl with hl | hl
  · rw [show (zs.length : Int) = 3 by omega]
    k_steps
    refine Hold.out (PySem.W.kso_max (by assumption) (by assumption) (isList_of (by assumption) (by k_mem)) hI (by omega) rfl ?_)
    intro h1 M tM k1 F1 N1 hM1 hM2
    have hM := topOf_eq (fun x hx => (hb x hx).1) hM1 hM2
    k_steps
    refine Hold.out (PySem.W.kso_min (by assumption) (by assumption) (isList_of (by assumption) (by k_mem)) hI (by omega) rfl ?_)
    intro h2 m1 tm k2 F2 N2 hm1 hm2
    have hm := lowOf_eq hm1 hm2
    k_steps
    refine Hold.out (max_two_N rfl (by assumption) (by assumption) ?_)
    intro h3 k3 F3 N3
    k_steps
    exact ret_i hret (by unfold latest; rw [if_pos hl, ← hM, ← hm]) (by assumption) (by assumption) (fun p hp => by simp only [List.mem_cons] at hp ⊢; simp [hp])
  · rw [show (zs.length : Int) = 4 by omega]
    k_steps
    rename IsRange _ _ _ _ _ _ _ _ => rg
    refine Hold.out (LCt.CompSrcT.range (n := 6) rfl (by assumption) (by assumption) rg (by decide) rfl (by decide) (fun g => ?_))
    refine compT_inv (n := 6) (fun i ys => IntsAre ys (lats (topOf zs) i)) ?turn ?done 6 0 [] rfl IntsAre.nil
    case turn =>
      rintro i ys v I oI C oC D m₂ h tk E' hi hys ⟨tv, rfl⟩ hC hv F N off ne
      k_steps
      refine Hold.out (PySem.W.kso_max (by assumption) (by assumption) (isList_of (by assumption) (by k_mem)) hI (by omega) rfl ?_)
      intro h1 M tM k1 F1 N1 hM1 hM2
      have hM := topOf_eq (fun x hx => (hb x hx).1) hM1 hM2
      subst hM
      k_steps
      · exact lats_yes hys (by assumption)
      · exact lats_no hys (by assumption)
    case done =>
      rintro ys hys
      have hyl := lats_len (topOf zs) 6
      k_steps
      refine Hold.out (add_made (by assumption) (by assumption) (by k_mem) (by k_mem) (by rw [hys.length]; show 1 + _ ≤ _; omega) ?_)
      intro D9 h9 F9 N9 lt9
      have lt10 := lt9
      k_lt lt10
      k_steps
      refine Hold.out (PySem.W.kso_max (by assumption) (by assumption) (isList_of (by assumption) (by k_mem)) (IntsAre.append (.cons 1 _ .nil) hys) (by simp) rfl ?_)
      intro h1 M tM k1 F1 N1 hM1 hM2
      have hM := topOf_eq (r := 1 :: lats (topOf zs) 6) (fun x hx => by
        rcases List.mem_cons.mp hx with rfl | hx
        · decide
        · exact lats_pos x hx) hM1 hM2
      k_steps
      exact ret_i hret (by unfold latest; rw [if_neg (by omega), ← hM]) (by assumption) (by assumption) (fun p hp => by simp only [List.mem_cons] at hp ⊢; simp [hp])
end
section
/-- those that d does not part -/
def undiv (zs : List Int) (d : Int) (i : Nat) : List Int := (zs.take i).filter fun x => decide ((x - zs.getD 0 0).fmod d ≠ 0)
def divs (zs : List Int) (i : Nat) : List Int := ((List.range i).filter fun (k : Nat) => decide (undiv zs (1 + (k : Int)) zs.length = [])).map fun (k : Nat) => 1 + (k : Int)
def dall (zs : List Int) : Int := topOf (0 :: divs zs (topOf zs - lowOf zs).toNat)
theorem divs_yes {ys : List Value} {zs : List Int} {i : Nat} {t : Tok} (h : IntsAre ys (divs zs i)) (hp : undiv zs (1 + (i : Int)) zs.length = []) : IntsAre (ys ++ [.int (1 + (i : Int)) t]) (divs zs (i + 1)) := by
  unfold divs
  rw [List.range_succ, List.filter_append, List.map_append, List.filter_cons, if_pos (by simpa using hp)]
  exact h.append (.cons _ _ .nil)
theorem divs_no {ys : List Value} {zs : List Int} {i : Nat} (h : IntsAre ys (divs zs i)) (hp : ¬ undiv zs (1 + (i : Int)) zs.length = []) : IntsAre ys (divs zs (i + 1)) := by
  unfold divs
  rw [List.range_succ, List.filter_append, List.map_append, List.filter_cons, if_neg (by simpa using hp), List.filter_nil, List.map_nil, List.append_nil]
  exact h
theorem divs_pos {zs : List Int} {i : Nat} : ∀ x ∈ divs zs i, 0 ≤ x := by
  intro x hx
  obtain ⟨k, _, rfl⟩ := List.mem_map.mp hx
  omega
theorem divs_len (zs : List Int) (i : Nat) : (divs zs i).length ≤ i := by
  unfold divs
  rw [List.length_map]
  exact Nat.le_trans (List.length_filter_le _ _) (by simp)
theorem range_from1 {x : Int} (h : 0 ≤ x) : Builtin.Range.rangeSize 1 (x + 1) 1 = ((x.toNat : Nat) : Int) := by
  unfold Builtin.Range.rangeSize
  rw [if_pos (by decide)]
  split
  · rw [Int.ediv_one]; omega
  · omega
theorem undiv_yes {ys : List Value} {zs : List Int} {d : Int} {i : Nat} {t : Tok} (h : IntsAre ys (undiv zs d i)) (hi : i < zs.length) (hp : (zs.getD i 0 - zs.getD 0 0).fmod d ≠ 0) : IntsAre (ys ++ [.int (zs.getD i 0) t]) (undiv zs d (i + 1)) :=
  filt_yes h hi (by simpa using hp)
theorem undiv_no {ys : List Value} {zs : List Int} {d : Int} {i : Nat} (h : IntsAre ys (undiv zs d i)) (hi : i < zs.length) (hp : (zs.getD i 0 - zs.getD 0 0).fmod d = 0) : IntsAre ys (undiv zs d (i + 1)) :=
  filt_no h hi (by rw [decide_eq_true_eq]; exact fun q => q hp)
theorem undiv_nil {ys : List Value} {zs : List Int} {d : Int} {n : Nat} (h : IntsAre ys (undiv zs d n)) : ys = [] ↔ undiv zs d n = [] := by
  have hl := h.length
  rw [← List.length_eq_zero_iff, ← List.length_eq_zero_iff (l := undiv _ _ _), hl]
local macro_rules | `(tactic| walk_at "CompEnd") => `(tactic| (k_here; k_dflt (first
  | (refine LCg.CompEnd.intro (by assumption) (by assumption) _ (fun p hp => hp) (by with_unfolding_all assumption) (by lcg_src) ?_)
  | (refine LCg.CompEnd.intro (by assumption) (by assumption) _ (fun p hp => List.Mem.tail _ hp) (by with_unfolding_all assumption) (by lcg_src) ?_))))
local macro_rules | `(tactic| k_all) => `(tactic| assumption)
local macro_rules | `(tactic| walk_at "eval ListComp") => `(tactic| (k_here; k_dflt (refine LCt.ListComp_T (F₀ := by k_asm) (by with_unfolding_all rfl) (by decide) (by rfl) (by decide) (by rfl) ?_)))
local macro_rules | `(tactic| walk_at "eval ListComp") => `(tactic| (k_here; k_dflt (refine ListComp_C (_F₀ := by k_asm) (by with_unfolding_all rfl) (by rfl) (by decide) (by rfl) ?_)))
local macro_rules | `(tactic| walk_at "CompSrcT") => `(tactic| (refine Hold.intro ?_))
local macro_rules | `(tactic| walk_at "SrcC") => `(tactic| (refine Hold.intro ?_))
local macro_rules | `(tactic| walk_at "call builtin:max") => `(tactic| (refine Hold.intro ?_))
local macro_rules | `(tactic| walk_at "call builtin:min") => `(tactic| (refine Hold.intro ?_))
local macro_rules | `(tactic| walk_at "compareOp Eq ref ref") => `(tactic| (refine Hold.intro ?_))
local macro_rules | `(tactic| walk_at "binaryOp Add ref ref") => `(tactic| (refine Hold.intro ?_))
local macro_rules | `(tactic| walk_at "subscriptTail Name Constant ref int") => `(tactic| (refine Hold.intro ?_))
set_option maxRecDepth 100000 in
set_option maxHeartbeats 8000000 in
theorem ldiv1 {w : World} {h : Heap} {mg mb : Str → Option Value} (news : List (Addr × Obj)) (l : Addr) (vs : List Value) (c : Nat) (zs : List Int) (hI : IntsAre vs zs) (hl : zs.length = 3) (hb : ∀ x ∈ zs, 0 ≤ x ∧ x < 128) :
   CbClaim PySem.Challenge.rw_pm0003_01.row.prog w (hd.heap_39 w.params) hd.view_39 (looseW hd.view_39 []) (ExcName.means h) mg mb 82 ((l, listOf vs.toArray c) :: news) [] True [.ref l] (fun t => .int (dall zs) t) := by
  k_fill
  w_top off
  unfold CbClaim CbLists CbRet
  intros
  rename_i hB _ hK hN hT hk hx hdp hun hret
  k_with_none
  refine wpAny_call ?_
  k_dflt cell_enter
  have kMark := kstMark
  k_steps
  refine Hold.out (PySem.W.kso_max (by assumption) (by assumption) (isList_of (by assumption) (by k_mem)) hI (by omega) rfl ?_)
  intro h1 M tM k1 F1 N1 hM1 hM2
  have hM := topOf_eq (fun x hx => (hb x hx).1) hM1 hM2
  k_steps
  refine Hold.out (PySem.W.kso_min (by assumption) (by assumption) (isList_of (by assumption) (by k_mem)) hI (by omega) rfl ?_)
  intro h2 m1 tm k2 F2 N2 hm1 hm2
  have hm := lowOf_eq hm1 hm2
  have hMb := hb _ hM1
  have hmb := hb _ hm1
  have hmM := hM2 _ hm1
  k_steps
  rename IsRange _ _ _ _ _ _ _ _ => rg
  refine Hold.out ⟨_, 1, M - m1 + 1, _, _, _, (M - m1).toNat, _, fun i ys => IntsAre ys (divs zs i), rfl, rfl, by assumption, by assumption, rg, small_one (by decide) (by decide) (by omega) (by omega), range_from1 (by omega), by rw [sizeLine_eq]; omega, .nil, fun s₂ hs₂ => ⟨?_, ?_⟩⟩
  · clear rg
    obtain ⟨gg, rfl⟩ := hs₂
    rintro i ys t I oI C oC K oK D h tk E' hi hys dK F N off ne below lts
    k_steps
    refine Hold.out (LCt.CompSrcT.ledger rfl (by assumption) (by assumption) (by k_mem) (by rw [List.size_toArray, hI.length, hl, sizeLine_eq]; decide) (fun g => ?_))
    refine compT_inv (n := vs.toArray.size) (fun i' ys => IntsAre ys (undiv zs (1 + (i : Int)) i')) ?_ ?_ _ 0 [] (Nat.zero_add _) IntsAre.nil
    · rintro i' ys v I oI C oC D m₂ h tk E' hi' hys' hv0 hC hv F N off ne
      obtain ⟨tv, rfl, hi''⟩ := IntsAre.at' hI i' v (by simpa using hv0)
      have hdp1 : (1 : Int) + (i : Int) ≠ 0 := by omega
      k_steps
      k_dflt refine Hold.out (item_cur 0 (by assumption) (by k_mem) hI (by omega) (by omega) ?_)
      intro t0
      k_steps
      · exact undiv_yes hys' hi'' (by assumption)
      · exact undiv_no hys' hi'' (by omega)
    · rintro ys' hys'
      rw [show vs.toArray.size = zs.length by rw [List.size_toArray, hI.length]] at hys'
      k_steps
      refine Hold.out (eq_nil (isList_of (by assumption) (by k_mem)) (isList_of (by assumption) (by k_mem)) (by simp only [units_deeper, Around.mark_units]; (try dsimp only [ktrTop]); omega) ?_)
      have hnil := undiv_nil hys'
      by_cases hy : ys' = []
      · rw [decide_eq_true hy]
        k_steps
        exact LCg.CompEnd.intro (by assumption) (by assumption) _ (fun p hp => by first | exact hp | exact .tail _ hp | exact .tail _ (.tail _ hp) | exact .tail _ (.tail _ (.tail _ hp))) off trivial ⟨rfl, divs_yes hys (hnil.mp hy)⟩
      · rw [decide_eq_false hy]
        k_steps
        exact LCg.CompEnd.intro (by assumption) (by assumption) _ (fun p hp => by first | exact hp | exact .tail _ hp | exact .tail _ (.tail _ hp) | exact .tail _ (.tail _ (.tail _ hp))) off trivial ⟨rfl, divs_no hys (fun q => hy (hnil.mpr q))⟩
  · obtain ⟨gg, rfl⟩ := hs₂
    rintro ys D h tk hys F N lts
    have lts' := lts
    k_lt lts'
    have hyl := divs_len zs (M - m1).toNat
    k_steps
    refine Hold.out (add_made (by assumption) (by assumption) (by k_mem) (by k_mem) (by rw [hys.length]; show 1 + _ ≤ _; omega) ?_)
    intro D9 h9 F9 N9 lt9
    have lt10 := lt9
    k_lt lt10
    k_steps
    refine Hold.out (PySem.W.kso_max (by assumption) (by assumption) (isList_of (by assumption) (by k_mem)) (IntsAre.append (.cons 0 _ .nil) hys) (by simp) rfl ?_)
    intro h1 M' tM k1 F1 N1 hM1' hM2'
    have hM' := topOf_eq (r := 0 :: divs zs (M - m1).toNat) (fun x hx => by
      rcases List.mem_cons.mp hx with rfl | hx
      · decide
      · exact divs_pos x hx) hM1' hM2'
    k_steps
    exact ret_i hret (by unfold dall; rw [hM', hM, hm]) (by assumption) (by assumption) (fun p hp => by simp only [List.mem_cons] at hp ⊢; simp [hp])
end
end Mine
namespace Mine
section
variable {w : World} {h : Heap} {mg mb : Str → Option Value} {dp un : Nat} {gd : Option (List Code)} {cn : Str} {cs : Scope} {a : Addr} {ccd : Value} {cl : List (Str × Addr)} {outer : List Env} {A₀ : Around} {base h₀ : Heap} {L : Addr} {m : Str → Option Value} {s : Shared} {Q E : Value → Shared → Prop} {news : List (Addr × Obj)}
theorem int2ap_at1 {x : Int} {t : Tok} (B : Below A₀ base outer h₀) (F : Fr h₀ L s.heap m) (X : (hd.heap_39 w.params).In h₀) (N : News h₀ L s.heap news) (T : Top hd.view_39 (looseW hd.view_39 []) (ExcName.means h) mg mb h₀) (hk : cs.kind = .function)
    (hx : -(2^40) < x ∧ x < 2^40) (hd1 : dp + 1 < recursionLimit) (hu : un + 8 < cLine)
    (hq : ∀ (t : Tok) (h' : Heap) (tk' : Nat), Fr h₀ L h' m → News h₀ L h' news → Q (.bytes (word x.natAbs).toArray t) { s with heap := h', toks := tk' }) :
    wpAny (model PySem.Challenge.rw_pm0003_01.row.prog w) (ktrTop dp un gd cn cs L a ccd cl outer) (call (.ref 53) [.int x t]) Q E s :=
  int2ap1 news x t _ _ _ _ _ _ _ _ _ _ _ _ _ _ _ _ _ B F X N T hk hx hd1 hu hq
theorem lword_at1 {x : Int} {t : Tok} (B : Below A₀ base outer h₀) (F : Fr h₀ L s.heap m) (X : (hd.heap_39 w.params).In h₀) (N : News h₀ L s.heap news) (T : Top hd.view_39 (looseW hd.view_39 []) (ExcName.means h) mg mb h₀) (hk : cs.kind = .function)
    (hx : 0 ≤ x ∧ x < 1048576) (hd1 : dp + 1 < recursionLimit) (hu : un + 8 < cLine)
    (hq : ∀ (t : Tok) (h' : Heap) (tk' : Nat), Fr h₀ L h' m → News h₀ L h' news → Q (.bytes (word x.natAbs).toArray t) { s with heap := h', toks := tk' }) :
    wpAny (model PySem.Challenge.rw_pm0003_01.row.prog w) (ktrTop dp un gd cn cs L a ccd cl outer) (call (.ref 65) [.int x t]) Q E s :=
  lword1 news x t _ _ _ _ _ _ _ _ _ _ _ _ _ _ _ _ _ B F X N T hk hx hd1 hu hq
theorem parse_at1 {x : Str} {t : Tok} {d e : Nat} {body : List Nat} (B : Below A₀ base outer h₀) (F : Fr h₀ L s.heap m) (X : (hd.heap_39 w.params).In h₀) (N : News h₀ L s.heap news) (T : Top hd.view_39 (looseW hd.view_39 []) (ExcName.means h) mg mb h₀) (hk : cs.kind = .function)
    (hx : x.cps.toList = 50 :: 53 :: 55 :: d :: e :: body ∧ x.length ≤ 100000) (hd1 : dp + 1 < recursionLimit) (hu : un + 8 < cLine)
    (hq : ∀ (t : Tok) (h' : Heap) (tk' : Nat), Fr h₀ L h' m → News h₀ L h' news → Q (.str (told d e body) t) { s with heap := h', toks := tk' }) :
    wpAny (model PySem.Challenge.rw_pm0003_01.row.prog w) (ktrTop dp un gd cn cs L a ccd cl outer) (call (.ref 46) [.str x t]) Q E s :=
  parse1 news x t d e body _ _ _ _ _ _ _ _ _ _ _ _ _ _ _ _ _ B F X N T hk hx hd1 hu hq
theorem fodd_at1 {l : Addr} {vs : List Value} {c : Nat} {ns : List Int} {n : Nat} {t : Tok} (B : Below A₀ base outer h₀) (F : Fr h₀ L s.heap m) (X : (hd.heap_39 w.params).In h₀) (N : News h₀ L s.heap news) (T : Top hd.view_39 (looseW hd.view_39 []) (ExcName.means h) mg mb h₀) (hk : cs.kind = .function)
    (hm : (l, listOf vs.toArray c) ∈ news) (hI : IntsAre vs ns) (hl : ns.length = 3 ∨ ns.length = 4) (hx : n ≤ 63) (hd1 : dp + 1 < recursionLimit) (hu : un + 8 < cLine)
    (hq : ∀ (t : Tok) (h' : Heap) (tk' : Nat), Fr h₀ L h' m → News h₀ L h' news → Q (.int (fofrom ns.length ns n ns.length 0) t) { s with heap := h', toks := tk' }) :
    wpAny (model PySem.Challenge.rw_pm0003_01.row.prog w) (ktrTop dp un gd cn cs L a ccd cl outer) (call (.ref 77) [.ref l, .int n t]) Q E s :=
  fodd1 news n t l vs c ns hI hl _ _ _ _ _ _ _ _ _ _ _ _ _ _ _ _ _ B F X (fun p hp => N p (by rcases List.mem_cons.mp hp with rfl | hp; exact hm; exact hp)) T hk hx hd1 hu fun t h' tk' F' N' => hq t h' tk' F' (fun p hp => N' p (List.mem_cons_of_mem _ hp))
theorem lworth_at1 {x : Nat} {t : Tok} (B : Below A₀ base outer h₀) (F : Fr h₀ L s.heap m) (X : (hd.heap_39 w.params).In h₀) (N : News h₀ L s.heap news) (T : Top hd.view_39 (looseW hd.view_39 []) (ExcName.means h) mg mb h₀) (hk : cs.kind = .function)
    (hx : x < 2^40) (hd1 : dp + 1 < recursionLimit) (hu : un + 8 < cLine)
    (hq : ∀ (t : Tok) (h' : Heap) (tk' : Nat), Fr h₀ L h' m → News h₀ L h' news → Q (.int (x : Int) t) { s with heap := h', toks := tk' }) :
    wpAny (model PySem.Challenge.rw_pm0003_01.row.prog w) (ktrTop dp un gd cn cs L a ccd cl outer) (call (.ref 60) [.bytes (word x).toArray t]) Q E s :=
  lworth1 news x t _ _ _ _ _ _ _ _ _ _ _ _ _ _ _ _ _ B F X N T hk hx hd1 hu hq
end
end Mine
namespace Mine
open PySem.Spec PySem.Calls
section
variable {prog : Program} {w : World} {A₀ A : Around} {s : Shared} {base h₀ : Heap} {L a : Addr} {m : Str → Option Value} {news : List (Addr × Obj)} {K : Frag} {p : Program} {loose : List Str} {mean : ExcName → Option Value} {mg mb : Str → Option Value}
  {R : Result → Shared → Prop} {name qual : Str} {params : Arguments} {body : List Stmt} {scope : Scope} {dV kV doc pm cdv ct oc : Value} {an od : Option Addr} {osl : Array (Option Value)} {f : Addr} {args : Args} {binds : List (Str × Value)} {env : Env}
/-- a def without cells is entered from one with cells; behind it the caller's frame may bear other slots -/
theorem enterX (B : Below A₀ base [] h₀) (F : Fr h₀ L s.heap m) (X : K.In h₀) (N : News h₀ L s.heap news) (T : Top p loose mean mg mb h₀) (hA : A.frames = some [env]) (hf : env.frame = some L) (hke : env.scope.kind = .function)
    (ho : K.lookup f = some ⟨oc, od, .func (fnOf name qual params body scope dV kV doc pm an cdv ct), osl⟩) (hcd : codeIn K cdv qual = true) (hroom : A.depth < recursionLimit)
    (hbind : BindsTo s (fnOf name qual params body scope dV kV doc pm an cdv ct) args binds) (hloc : ∀ y ∈ binds, scope.names.lookup y.1 = some .local)
    (h : ∀ g L' h₁, Fr g L' h₁ (fun y => binds.reverse.lookup y) → News g L' h₁ news → Below A base [env] g → K.In g → Top p loose mean mg mb g → KtsDicts [L] g → (∀ p ∈ news, p.1 < L') →
      wpAny (model prog w) (A.deeper (envOf qual scope L' f cdv)) (execs body (envOf qual scope L' f cdv))
        (fun fl s' => LeaveS0 [L] h₀ L m g R (match fl with | .ret v => v | _ => .none) s')
        (fun e s' => wpAny (model prog w) (A.deeper (envOf qual scope L' f cdv)) (leaving (envOf qual scope L' f cdv) e) (fun _ s'' => R (.error e) s'') (fun e' s'' => R (.error e') s'') s')
        { s with heap := h₁, toks := s.toks + binds.length })
    (hco : scope.isCoroutine = false) (hgen : scope.isGenerator = false) (hk : scope.kind = .function)
    (hcell : ∀ x ∈ scope.names, x.2 ≠ .cell) : codeAny (model prog w) A (.call (.ref f) args) R s := by
  -- the ledger's objects are hidden from the new ground
  have off : ∀ b o, h₀.get? b = some o → b ∉ news.map (·.1) := by
    intro b o e hb
    obtain ⟨q, hq, e2⟩ := List.mem_map.mp hb
    have := (N q hq).2.2
    rw [e2, e] at this
    cases this
  have offL : L ∉ news.map (·.1) := by
    intro hb
    obtain ⟨q, hq, e2⟩ := List.mem_map.mp hb
    exact (N q hq).2.1 e2
  have st : h₀.StaysIn (hideAll s.heap (news.map (·.1))) := fun b o e => hideAll_get _ (F.keep b o e) (off b o e)
  obtain ⟨oL, es, ep, gL, dL, kL, fL⟩ := F.ns
  have gL' := hideAll_get (news.map (·.1)) gL offL
  have bL : h₀.get? L = none := by
    cases q : h₀.get? L with
    | none => rfl
    | some o => exact absurd (Heap.lt_size q) (Nat.not_lt.mpr F.above)
  have baseL : base.get? L = none := by
    cases q : base.get? L with
    | none => rfl
    | some o => rw [B.stays L o q] at bL; cases bL
  have B' : Below A base [env] (hideAll s.heap (news.map (·.1))) :=
    ⟨hA, fun b o e => st b o (B.stays b o e), ⟨by rw [hke]; decide, ⟨L, oL, hf, baseL, gL', fun vs e => by rw [dL] at e; cases e⟩, trivial⟩⟩
  have X' : K.In s.heap := X.keeps F.keep
  refine codeAny_call_def (fd := fnOf name qual params body scope dV kV doc pm an cdv ct) (body := body) (binds := binds) hroom (X' _ _ ho) rfl (T.nolimit.keeps F.keep) (codeRec_of X' hcd) rfl hbind hcell hloc (fun h₁ hns keep => ?_) hco hgen hk
  have F₁ : Fr (hideAll s.heap (news.map (·.1))) s.heap.objs.size h₁ (fun y => binds.reverse.lookup y) := ⟨hns, fun b o e => keep b o (of_hideAll _ e), Nat.le_of_eq (hideAll_size _ _)⟩
  have N₁ : News (hideAll s.heap (news.map (·.1))) s.heap.objs.size h₁ news := fun q hq => ⟨keep _ _ (N q hq).1, Nat.ne_of_lt (Heap.lt_size (N q hq).1), hideAll_none _ (List.mem_map_of_mem hq)⟩
  have D : KtsDicts [L] (hideAll s.heap (news.map (·.1))) := by
    intro b hb
    obtain rfl := List.mem_singleton.mp hb
    exact ⟨oL, es, ep, gL', dL⟩
  refine wpAny_mono (h _ _ h₁ F₁ N₁ B' (X.keeps st) (T.keeps st) D fun q hq => Heap.lt_size (N q hq).1) (fun fl s' back => ?_) fun _ _ e => e
  obtain ⟨g', L', m', news', turn, F', N', k⟩ := back
  obtain ⟨sl, hsl⟩ := turn.up gL'
  have one : ∀ b, b ∈ [L] → b = L := fun b hb => List.mem_singleton.mp hb
  refine k ⟨⟨_, es, ep, F'.keep _ _ hsl, dL, kL, fL⟩, fun b o e => ?_, F.above⟩ fun q hq => ⟨(N' q hq).1, ?_, ?_⟩
  · refine F'.keep b o (turn.other b o (st b o e) fun hb => ?_)
    rw [one b hb, bL] at e
    cases e
  · intro e
    have := (N' q hq).2.2
    rw [e, hsl] at this
    cases this
  · cases z : h₀.get? q.1 with
    | none => rfl
    | some o =>
      obtain ⟨sl', hs'⟩ := turn.up (st _ _ z)
      have := (N' q hq).2.2
      rw [hs'] at this
      cases this
end
end Mine
namespace Mine
open PySem.Spec PySem.Calls
section
variable {prog : Program} {w : World} {A : Around} {E : Value → Shared → Prop} {s : Shared} {K : Frag} {e t0 C : Addr} {oe : Obj} {od : Option Obj} {ws : Array (Option Value)} {vs : List Value}
/-- what an exception bears as its args, be its class our own -/
theorem bexcArgs_at {Q : Value × List Value → Shared → Prop} {M : Model} {wv : Array Value} (ho : s.heap.get? e = some oe) (hd : oe.data = .fields wv) (h0 : wv[0]? = some (.ref t0)) (ht : s.heap.TupAt t0 vs) (hq : Q (.ref t0, vs) s) :
    wpAny M A (Builtin.BaseException.bexcArgs (.ref e)) Q E s := by
  obtain ⟨ot, k, hto, _, htd⟩ := ht
  unfold Builtin.BaseException.bexcArgs
  refine wpAny_bind (wpAny_field ho hd h0 (wpAny_bind (wpAny_seqItems hto htd ?_)))
  have : vs.toArray.toList = vs := rfl
  show wpAny M A (pure (Value.ref t0, vs.toArray.toList)) Q E s
  rw [this]
  exact wpAny_pure hq
theorem bexcStr_at {m : Str} {u : Tok} {wv : Array Value} {Q : Fin → Shared → Prop} (ho : s.heap.get? e = some oe) (hd : oe.data = .fields wv) (h0 : wv[0]? = some (.ref t0)) (ht : s.heap.TupAt t0 [.str m u]) (hq : Q (.done (.ret (.str m u))) s) :
    wpAny (model prog w) A (Builtin.«BaseException.__str__» ⟨[.ref e], []⟩) Q E s := by
  unfold Builtin.«BaseException.__str__»
  repeat (first | with_reducible refine bexcArgs_at ho hd h0 ht ?_ | wp_step)
  exact hq
theorem type_at {M : Model} {h : Heap} (ho : h.get? e = some oe) (hc : oe.cls = .ref C) : Looks M h (typeOf (.ref e)) (.ref C) := hc ▸ (Looks.ld ho).andThen .now
theorem special_at {M : Model} {name : Str} {id : String} {args : List Value} {Q : Option Value → Shared → Prop} (X : K.In s.heap) (ho : s.heap.get? e = some oe) (hc : oe.cls = .ref C) (hs : findIn K (.ref C) name = some (some (.builtin id)))
    (hb : ∀ self, bindSpecial (.builtin id) self = pure (.builtin id, [self])) (h : wpAny M A (call (.builtin id) (.ref e :: args)) (fun v => Q (some v)) E s) : wpAny M A (callSpecial? (.ref e) name args) Q E s := by
  have I : Looks M s.heap (typeOf (.ref e)) (.ref C) := type_at ho hc
  exact wpAny_bind (m := specialOf (.ref e) name) (wpAny_bind (m := typeOf (.ref e)) (I.here ((looks_findIn X hs).here (wpAny_holding (wpAny_bind ((Looks.of_pure (hb _)).here (wpAny_bind (wpAny_mono h (fun v s' z => wpAny_pure z) fun _ _ z => z))))))))
open Builtin in
theorem bexcStr_call {m : Str} {u : Tok} {wv : Array Value} {Q : Value → Shared → Prop} (X : K.In s.heap) (ho : s.heap.get? e = some oe) (hc : oe.cls = .ref C) (hd : oe.data = .fields wv) (h0 : wv[0]? = some (.ref t0)) (ht : s.heap.TupAt t0 [.str m u])
    (hm : mroIn K C (.type "BaseException") = some true) (hq : Q (.str m u) s) : wpAny (model prog w) A (call (.builtin "BaseException.__str__") [.ref e]) Q E s := by
  refine wpAny_call (codeAny_call_builtin PySem.F.excStr_Exception.str.plain PySem.F.entry_bexc_str (check_slot (i := "BaseException.__str__") (owner := "BaseException") (n := "__str__") (by decide +kernel) (by decide +kernel) ((type_at ho hc).andThen (looks_mroIn X hm)) (PySem.F.args_bexc_str _) ?_))
  exact bexcStr_at ho hd h0 ht hq
open Builtin Builtin.Str in
theorem str_own {m : Str} {u : Tok} {wv : Array Value} {Q : Value → Shared → Prop} (hu : A.in1.in1.units < cLine) (X : K.In s.heap) (ho : s.heap.get? e = some oe) (hc : oe.cls = .ref C) (hd : oe.data = .fields wv) (h0 : wv[0]? = some (.ref t0)) (ht : s.heap.TupAt t0 [.str m u])
    (hs : findIn K (.ref C) "__str__" = some (some (.builtin "BaseException.__str__"))) (hm : mroIn K C (.type "BaseException") = some true) (h : Q (.str m u) s) : wpAny (model prog w) A (call (.type "str") [.ref e]) Q E s := by
  refine callType_codes (T := "str") (Bi := Builtin.«object.__init__») (Q₁ := fun r s₁ => ∃ y u, r = .str y u ∧ Q r s₁) PySem.F.called_str (PySem.F.typeCall_str_1 _) PySem.F.entry_object_init ?_ ?_
  · refine codeAny_of_tree ?_
    show wpAny _ A.in1.in1 (do checkBuiltinCall "str.__new__" ⟨[.type "str", .ref e], []⟩; again (.builtin "str.__new__" ⟨[.type "str", .ref e], []⟩)) _ _ s
    refine wpAny_bind (wpAny_of_eq (PySem.F.newCall_str_1 _) (wpAny_pure ⟨plainId_quiet (by decide +kernel) _, codeAny_builtin PySem.F.entry_str_new ?_⟩))
    rw [Around.under_plainId (by decide +kernel) _]
    rw [str_new_tree]
    refine wpAny_bind (wpAny_pure ?_)
    refine wpAny_bind (wpAny_of_eq isSubtype_str_str ?_)
    have told : wpAny (model prog w) A.in1.in1 (PySem.Builtin.Str.strOf (.ref e)) (fun r s₁ => ∃ y u, r = .str y u ∧ Q r s₁) E s := by
      unfold PySem.Builtin.Str.strOf
      rw [show isExactStr (.ref e) = false from rfl]
      refine wpAny_bind (m := cRoomFor _ _) (wpAny_cRoomFor hu ?_)
      refine wpAny_bind (m := callSpecial? (.ref e) (Str.ofString "__str__")) (special_at X ho hc hs PySem.F.excStr_Exception.str.bind (bexcStr_call X ho hc hd h0 ht hm ?_))
      exact wpAny_pure ⟨_, _, rfl, h⟩
    exact wpAny_bind (wpAny_mono told (fun r s₁ hr => wpAny_pure hr) fun _ _ y => y)
  · rintro obj s₁ ⟨y, u, rfl, hq⟩
    exact ⟨typeIs_str _ _ _, PySem.F.args_object_init_2 _ _, object_init_meets PySem.F.called_str.init.lookup PySem.F.called_str.made (by decide) prog w A.in1 _ s₁ ⟨typeIs_str _ _ _, rfl, hq⟩⟩
/-- the same, where the ledger holds the exception -/
theorem str_got {h₀ : Heap} {L : Addr} {m : Str → Option Value} {news : List (Addr × Obj)} {x : Str} {u : Tok} {Q : Value → Shared → Prop} (hu : A.in1.in1.units < cLine) (X : K.In h₀) (F : Fr h₀ L s.heap m) (N : News h₀ L s.heap news) (G : Got news e t0 (.ref C) [.str x u])
    (hs : findIn K (.ref C) "__str__" = some (some (.builtin "BaseException.__str__"))) (hm : mroIn K C (.type "BaseException") = some true) (h : Q (.str x u) s) : wpAny (model prog w) A (call (.type "str") [.ref e]) Q E s := by
  obtain ⟨oe, ot, wv, nt, h1, h2, hc, hd, h0, htc, htd⟩ := G
  refine str_own hu (X.keeps F.keep) (N.get h1) hc hd h0 ⟨ot, nt, N.get h2, htc, htd⟩ hs hm h
end
end Mine
namespace Mine
theorem p_ncode {x : Str} {c d e : Nat} {body : List Nat} (hc : c ≠ 55) (h : x.cps.toList = 50 :: 53 :: c :: d :: e :: body ∧ x.length ≤ 100000) : (Txt.slice x none (some 3) != Str.ofString "257") = true := by
  rw [slice_3 h.1, code_eq]
  simp [hc]
local macro_rules | `(tactic| walk_at "call ref") => `(tactic| (refine Hold.intro ?_))
local macro_rules | `(tactic| walk_at "ite") => `(tactic| (refine Hold.intro ?_))
local macro_rules | `(tactic| walk_at "call type:str") => `(tactic| (refine Hold.intro ?_))
local macro_rules | `(tactic| walk_at "leaving ref") => `(tactic| (refine Hold.intro ?_))
local macro_rules | `(tactic| walk_at "noteFrame ref") => `(tactic| (refine Hold.intro ?_))
set_option maxRecDepth 100000 in
set_option maxHeartbeats 8000000 in
theorem told_bad {w : World} {h : Heap} {mg mb : Str → Option Value} {dp un : Nat} {gd : Option (List Code)} {cn : Str} {cs : Scope} {a : Addr} {ccd : Value} {cl : List (Str × Addr)} {A₀ : Around} {h₀ : Heap} {L : Addr} {m : Str → Option Value} {s : Shared} {Q E : Value → Shared → Prop} {news : List (Addr × Obj)}
    {x : Str} {t : Tok} {c d e : Nat} {body : List Nat} (hc : c ≠ 55) (B : Below A₀ h₀ [] h₀) (F : Fr h₀ L s.heap m) (X : (hd.heap_39 w.params).In h₀) (N : News h₀ L s.heap news) (T : Top hd.view_39 (looseW hd.view_39 []) (ExcName.means h) mg mb h₀) (hk : cs.kind = .function)
    (hx : x.cps.toList = 50 :: 53 :: c :: d :: e :: body ∧ x.length ≤ 100000) (hdp : dp + 2 < recursionLimit) (hun : un + 16 < cLine)
    (hq : ∀ (l' : Addr) (t' : Tok) (h' : Heap) (tk' : Nat), Fr h₀ L h' m → News h₀ L h' ((l', listOf #[.str x t'] 0) :: news) → Q (.ref l') { s with heap := h', toks := tk' }) :
    wpAny (model PySem.Challenge.rw_pm0003_01.row.prog w) (ktrTop dp un gd cn cs L a ccd cl []) (call (.ref 72) [.str x t]) Q E s := by
  revert X
  k_fill
  intro X
  w_top off
  k_with_none
  refine wpAny_call ?_
  k_dflt (refine' enterX ?k1 ?k2 ?k3 ?k4 ?k5 ?kA ?kF ?kK ?k6 ?k7 ?k8 ?k9 ?kB ?_ ?c2 ?c3 ?c4 ?c5; (case kA => exact rfl); (case kF => exact rfl); (case kK => assumption); (case k1 => k_asm); (case k2 => k_asm); (case k3 => k_asm); (case k4 => k_asm); (case k5 => k_asm); (case k6 => k_is); (case k7 => k_is); (case k8 => ktr_room); (case k9 => exact BindsTo.of_eq rfl); (case kB => exact locs rfl); (case c2 => exact rfl); (case c3 => exact rfl); (case c4 => exact rfl); (case c5 => decide); k_whole; intro g' L' h' F' N' B' X' T' D' l1; (try k_lt l1); (try dsimp only); (try k_lift B'); (try k_fold))
  k_steps
  refine Hold.out ?_
  have hke : ScopeKind.function = ScopeKind.function := rfl
  refine wpAny_call ?_
  k_dflt cell_enter
  k_steps
  refine Hold.out ?_
  rw [if_pos (p_ncode hc hx)]
  k_steps
  k_dflt (refine' Hold.out (leave_raiseS ?k1 ?k0 ?k2 ?k3 ?_); (case k0 => assumption); (case k2 => assumption); (case k1 => assumption); (case k3 => k_asm); k_whole; intro h' t' S' R' U'; (try dsimp only at S' R' U' ⊢))
  k_steps
  k_dflt (refine' Hold.out (caught_SOB ?R ?F ?K ?U ?XB ?TB ?D ?T0 ?ex ?q ?_); (case R => assumption); (case F => assumption); (case K => assumption); (case U => assumption); (case XB => exact X); (case TB => exact T); (case D => exact D'); (case T0 => exact KtsTurn.refl); (case ex => k_is); (case q => kts_isx); k_whole; intro h' g' n₂ tk' T' F' N₂ G' N' K' X' P' D'; (try k_lift K'); (try k_sweep))
  k_steps
  k_dflt (refine' Hold.out (str_got (K := hd.heap_39 w.params) ?u ?X ?F ?N ?G ?s ?m ?_); (case G => assumption); (case u => simp only [units_in1, units_deeper, Around.mark_units]; (try dsimp only [ktrTop]); omega); (case X => assumption); (case F => assumption); (case N => assumption); (case s => k_is); (case m => k_is); k_whole)
  k_steps
  exact hq _ _ _ _ (by assumption) (by assumption)
end Mine
namespace Mine
local macro_rules | `(tactic| walk_at "call ref") => `(tactic| (refine Hold.intro ?_))
set_option maxRecDepth 100000 in
set_option maxHeartbeats 8000000 in
theorem told_good {w : World} {h : Heap} {mg mb : Str → Option Value} {dp un : Nat} {gd : Option (List Code)} {cn : Str} {cs : Scope} {a : Addr} {ccd : Value} {cl : List (Str × Addr)} {outer : List Env} {A₀ : Around} {base h₀ : Heap} {L : Addr} {m : Str → Option Value} {s : Shared} {Q E : Value → Shared → Prop} {news : List (Addr × Obj)}
    {x : Str} {t : Tok} {d e : Nat} {body : List Nat} (B : Below A₀ base outer h₀) (F : Fr h₀ L s.heap m) (X : (hd.heap_39 w.params).In h₀) (N : News h₀ L s.heap news) (T : Top hd.view_39 (looseW hd.view_39 []) (ExcName.means h) mg mb h₀) (hk : cs.kind = .function)
    (hx : x.cps.toList = 50 :: 53 :: 55 :: d :: e :: body ∧ x.length ≤ 100000) (hdp : dp + 2 < recursionLimit) (hun : un + 16 < cLine)
    (hq : ∀ (t : Tok) (h' : Heap) (tk' : Nat), Fr h₀ L h' m → News h₀ L h' news → Q (.str (told d e body) t) { s with heap := h', toks := tk' }) :
    wpAny (model PySem.Challenge.rw_pm0003_01.row.prog w) (ktrTop dp un gd cn cs L a ccd cl outer) (call (.ref 72) [.str x t]) Q E s := by
  revert X
  k_fill
  intro X
  w_top off
  k_with_none
  refine wpAny_call ?_
  k_dflt cell_enter
  k_steps
  k_dflt refine Hold.out (parse_at1 (by k_asm) (by k_asm) (by k_asm) (by k_asm) (by k_asm) rfl hx (show dp + 1 + 1 < _ by omega) (show un + 3 + 8 < _ by omega) ?_)
  intro t' h' tk' F' N'
  k_steps
  exact hq _ _ _ (by assumption) (by assumption)
end Mine
namespace Mine
section
variable {w : World} {h : Heap} {mg mb : Str → Option Value} {dp un : Nat} {gd : Option (List Code)} {cn : Str} {cs : Scope} {a : Addr} {ccd : Value} {cl : List (Str × Addr)} {outer : List Env} {A₀ : Around} {base h₀ : Heap} {L : Addr} {m : Str → Option Value} {s : Shared} {Q E : Value → Shared → Prop} {news : List (Addr × Obj)}
theorem latest_at1 {l : Addr} {vs : List Value} {c : Nat} {zs : List Int} (B : Below A₀ base outer h₀) (F : Fr h₀ L s.heap m) (X : (hd.heap_39 w.params).In h₀) (N : News h₀ L s.heap news) (T : Top hd.view_39 (looseW hd.view_39 []) (ExcName.means h) mg mb h₀) (hk : cs.kind = .function)
    (hm : (l, listOf vs.toArray c) ∈ news) (hI : IntsAre vs zs) (hl : zs.length = 3 ∨ zs.length = 4) (hb : ∀ x ∈ zs, 0 ≤ x ∧ x < 128) (hd1 : dp + 1 < recursionLimit) (hu : un + 8 < cLine)
    (hq : ∀ (t : Tok) (h' : Heap) (tk' : Nat), Fr h₀ L h' m → News h₀ L h' news → Q (.int (latest zs) t) { s with heap := h', toks := tk' }) :
    wpAny (model PySem.Challenge.rw_pm0003_01.row.prog w) (ktrTop dp un gd cn cs L a ccd cl outer) (call (.ref 87) [.ref l]) Q E s :=
  llatest1 news l vs c zs hI hl hb _ _ _ _ _ _ _ _ _ _ _ _ _ _ _ _ _ B F X (fun p hp => N p (by rcases List.mem_cons.mp hp with rfl | hp; exact hm; exact hp)) T hk trivial hd1 hu fun t h' tk' F' N' => hq t h' tk' F' (fun p hp => N' p (List.mem_cons_of_mem _ hp))
theorem div_at1 {l : Addr} {vs : List Value} {c : Nat} {zs : List Int} (B : Below A₀ base outer h₀) (F : Fr h₀ L s.heap m) (X : (hd.heap_39 w.params).In h₀) (N : News h₀ L s.heap news) (T : Top hd.view_39 (looseW hd.view_39 []) (ExcName.means h) mg mb h₀) (hk : cs.kind = .function)
    (hm : (l, listOf vs.toArray c) ∈ news) (hI : IntsAre vs zs) (hl : zs.length = 3) (hb : ∀ x ∈ zs, 0 ≤ x ∧ x < 128) (hd1 : dp + 1 < recursionLimit) (hu : un + 8 < cLine)
    (hq : ∀ (t : Tok) (h' : Heap) (tk' : Nat), Fr h₀ L h' m → News h₀ L h' news → Q (.int (dall zs) t) { s with heap := h', toks := tk' }) :
    wpAny (model PySem.Challenge.rw_pm0003_01.row.prog w) (ktrTop dp un gd cn cs L a ccd cl outer) (call (.ref 82) [.ref l]) Q E s :=
  ldiv1 news l vs c zs hI hl hb _ _ _ _ _ _ _ _ _ _ _ _ _ _ _ _ _ B F X (fun p hp => N p (by rcases List.mem_cons.mp hp with rfl | hp; exact hm; exact hp)) T hk trivial hd1 hu fun t h' tk' F' N' => hq t h' tk' F' (fun p hp => N' p (List.mem_cons_of_mem _ hp))
end
end Mine
namespace Mine
open PySem.Spec PySem.Calls
open LCg
section
variable {prog : Program} {w : World} {A : Around} {E : Value → Shared → Prop} {s : Shared} {h₀ : Heap} {L : Addr} {m : Str → Option Value} {env : Env}
theorem news_two {h h' : Heap} {e it : Addr} {news : List (Addr × Obj)} (N : News h₀ L h news) (hk : ∀ b o, b ∉ [e, it] → h.get? b = some o → h'.get? b = some o) (off : ∀ p ∈ news, p.1 ≠ e ∧ p.1 ≠ it) : News h₀ L h' news :=
  fun p hp => ⟨hk _ _ (by have := off p hp; simp [this.1, this.2]) (N p hp).1, (N p hp).2⟩
theorem fr_two {h h' : Heap} {e it : Addr} (F : Fr h₀ L h m) (hk : ∀ b o, b ∉ [e, it] → h.get? b = some o → h'.get? b = some o) (h1 : L ≠ e) (h2 : L ≠ it) (h3 : h₀.get? e = none) (h4 : h₀.get? it = none) : Fr h₀ L h' m :=
  ⟨F.ns.at' fun o x => hk L o (by simp [h1, h2]) x, fun b o x => hk b o (by
    intro hm
    simp only [List.mem_cons, List.not_mem_nil, or_false] at hm
    rcases hm with rfl | rfl
    · rw [h3] at x; cases x
    · rw [h4] at x; cases x) (F.keep b o x), F.above⟩
def EnumTurn (prog : Program) (w : World) (A : Around) (h₀ : Heap) (L : Addr) (m : Str → Option Value) (env : Env) (elt : Expr) (x x₂ : Str) (scope : Scope) (cl : List (Str × Addr)) (s : Shared) (items : Array Value) (led : List (Addr × Obj)) (J : Nat → List Value → Prop) : Prop :=
  ∀ (i : Nat) (ys : List Value) (v : Value) (t : Tok) (e : Addr) (oe : Obj) (it : Addr) (oi : Obj) (C : Addr) (oC : Obj) (D : Addr) (m₂ : Str → Option Value) (h : Heap) (tk : Nat) (E' : Value → Shared → Prop), J i ys → items[i]? = some v → NsObj oC m₂ → m₂ x = some (.int i t) → m₂ x₂ = some v → Fr h₀ L h m →
    News h₀ L h ((e, oe) :: (C, oC) :: (D, lst ys) :: (it, oi) :: led) → Off3 e C D ((it, oi) :: led) → ((@Ne Nat e C) ∧ (@Ne Nat e D) ∧ (@Ne Nat C D)) →
    wpAny (model prog w) A (eval elt (compEnvC scope cl C env)) (CompEnd h₀ L m { s with heap := h, toks := tk } e oe C oC D (lst ys) (fun _ => True) (fun y news' => news' = (it, oi) :: led ∧ J (i + 1) (ys ++ [y]))) E' { s with heap := h, toks := tk }
theorem block_E {elt iter : Expr} {x x₂ : Str} {px px₂ tp : Pos} {tk} {scope : Scope} {cl : List (Str × Addr)} {pos : Pos} {s₂ : Shared} {e it l : Addr} {us : List Value} {c : Nat} {led : List (Addr × Obj)} {J : Nat → List Value → Prop} {RR : Value → Addr → Result → Shared → Prop}
    (hh : A.handled = none) (hsz : us.length ≤ sizeLine) (hcell : ∀ y ∈ scope.names, y.2 ≠ .cell) (hkind : scope.kind = .function) (hx : scope.names.lookup x = some .local) (hx₂ : scope.names.lookup x₂ = some .local) (hxx : x ≠ x₂)
    (F : Fr h₀ L s₂.heap m) (N : News h₀ L s₂.heap led) (hm : (l, listOf us.toArray c) ∈ led) (he : IsEnum s₂.heap e it 0 .none) (hi : s₂.heap.IsListIter it l 0) (hei : e ≠ it) (off : ∀ p ∈ led, p.1 ≠ e ∧ p.1 ≠ it) (he₀ : h₀.get? e = none) (hi₀ : h₀.get? it = none) (hLe : L ≠ e) (hLi : L ≠ it)
    (hJ : J 0 []) (turn : EnumTurn prog w A h₀ L m env elt x x₂ scope cl s₂ us.toArray led J)
    (hRR : ∀ D C h tk m' ys, Fr h₀ L h m → News h₀ L h ((D, lst ys) :: led) → Off1 D led → h.Ns C m' → h₀.get? C = none → h₀.get? D = none → C ≠ L → D ≠ L → C ≠ D → (∀ p ∈ led, p.1 ≠ C) → J us.length ys → RR (.ref D) C (.ok .next) { s₂ with heap := h, toks := tk }) :
    wpAny (model prog w) A (newList []) (fun acc s₃ => wpAny (model prog w) A (newFunctionEnv scope env.globals cl [] env.qual none .none (some env)) (fun cenv s₄ =>
      codeAny (model prog w) A (.compStart (.ListComp elt [⟨.Tuple [.Name x px, .Name x₂ px₂] tk tp, iter, [], 0⟩] scope pos) 0 (.ref e) acc { cenv with scope := relabel scope env }) (RR acc cenv.locals) s₄) E s₃) E s₂ := by
  have hl : s₂.heap.IsList l us.toArray := ⟨_, (N _ hm).1, rfl, c, rfl⟩
  have hle : l ≠ e := (off _ hm).1
  have hli : l ≠ it := (off _ hm).2
  have W := WalksT.enumerate (prog := prog) (w := w) hh e it l hei hle hli us.toArray
  have hussz : us.toArray.size = us.length := by simp
  have hfp : ∀ b ∈ [e, it, l], b < s₂.heap.objs.size := by
    intro b hb
    simp only [List.mem_cons, List.not_mem_nil, or_false] at hb
    rcases hb with rfl | rfl | rfl
    · exact Heap.lt_size he
    · obtain ⟨_, q, _⟩ := hi; exact Heap.lt_size q
    · exact Heap.lt_size (N _ hm).1
  refine wpAny_newObj_type (wpAny_newFunctionEnv hcell (by intro y hy; simp at hy) (fun h₁ hns₁ hsb₁ => ?_) hkind)
  dsimp only at hns₁ hsb₁ ⊢
  generalize hH2 : s₂.heap.push { cls := .type "list", dict := none, data := .seq ([] : List Value).toArray } = H2 at hns₁ hsb₁ ⊢
  have hC : H2.objs.size = s₂.heap.objs.size + 1 := by rw [← hH2, Heap.size_push]
  have hDC : s₂.heap.objs.size ≠ H2.objs.size := by rw [hC]; exact Nat.ne_of_lt (Nat.lt_succ_self _)
  have below : ∀ b, b < s₂.heap.objs.size → b ≠ H2.objs.size ∧ b ≠ s₂.heap.objs.size := fun b hb => ⟨by rw [hC]; exact Nat.ne_of_lt (Nat.lt_succ_of_lt hb), Nat.ne_of_lt hb⟩
  have old : ∀ b o, s₂.heap.get? b = some o → h₁.get? b = some o := fun b o q => hsb₁.extBut b o (below b (Heap.lt_size q)).1 (Heap.get?_push_of_some _ (hH2 ▸ Heap.get?_push_of_some _ q))
  have hacc : h₁.get? s₂.heap.objs.size = some (lst []) := hsb₁.extBut _ _ hDC (Heap.get?_push_of_some _ (hH2 ▸ Heap.get?_push_size _ rfl))
  have fresh : ∀ a, s₂.heap.objs.size ≤ a → s₂.heap.get? a = none := fun a ha => by
    cases q : s₂.heap.get? a with
    | none => rfl
    | some o' => exact absurd (Heap.lt_size q) (Nat.not_lt.mpr ha)
  have fresh₀ : ∀ a, s₂.heap.objs.size ≤ a → h₀.get? a = none := fun a ha => by
    cases q : h₀.get? a with
    | none => rfl
    | some o' => have := F.keep a o' q; rw [fresh a ha] at this; cases this
  have hD₀ : h₀.get? s₂.heap.objs.size = none := fresh₀ _ (Nat.le_refl _)
  have hC₀ : h₀.get? H2.objs.size = none := fresh₀ _ (by rw [hC]; exact Nat.le_succ _)
  have hLlt : L < s₂.heap.objs.size := F.ns.lt
  have hDL : s₂.heap.objs.size ≠ L := Ne.symm (below L hLlt).2
  have hCL : H2.objs.size ≠ L := Ne.symm (below L hLlt).1
  have belowfp : ∀ b ∈ [e, it, l], b ≠ H2.objs.size ∧ b ≠ s₂.heap.objs.size := fun b hb => below b (hfp b hb)
  have hst₁ : (∃ old, IsEnum h₁ e it (0 : Nat) old) ∧ h₁.IsListIter it l 0 ∧ h₁.IsList l us.toArray := W.frame 0 _ _ ⟨⟨_, he⟩, hi, hl⟩ fun b _ o q => old b o q
  have loop : ∀ s₃ : Shared, s₃ = { s₂ with heap := h₁, toks := s₂.toks + ([] : List (Str × Value)).length } →
      codeAny (model prog w) A (.compLoop (.ListComp elt [⟨.Tuple [.Name x px, .Name x₂ px₂] tk tp, iter, [], 0⟩] scope pos) 0 (.ref e) (.ref s₂.heap.objs.size) (compEnvC scope cl H2.objs.size env))
        (RR (.ref s₂.heap.objs.size) H2.objs.size) s₃ := by
    rintro s₃ rfl
    refine LCp.codeAny_compLoop_pair
      (fun k s' => ∃ h' tk i ys m', s' = { s₂ with heap := h', toks := tk } ∧ i ≤ us.length ∧ k = us.length + 1 - i ∧ ys.length = i ∧ ((∃ old, IsEnum h' e it (i : Nat) old) ∧ h'.IsListIter it l i ∧ h'.IsList l us.toArray) ∧ Fr h₀ L h' m ∧ h'.Ns H2.objs.size m' ∧ News h₀ L h' ((s₂.heap.objs.size, lst ys) :: led) ∧ J i ys) ?_ (us.length + 1)
      ⟨h₁, _, 0, [], _, rfl, Nat.zero_le _, rfl, rfl, hst₁, F.keeps old, hns₁, fun p hp => ?_, hJ⟩
    · rintro k s' ⟨h', tk, i, ys, m', rfl, hile, rfl, hyl, hst', F', hn', N', hJ'⟩
      have offD : ∀ p ∈ (s₂.heap.objs.size, lst ys) :: led, p.1 ≠ e ∧ p.1 ≠ it := fun p hp => by
        rcases List.mem_cons.mp hp with rfl | hp
        · exact ⟨Ne.symm (belowfp e (by simp)).2, Ne.symm (belowfp it (by simp)).2⟩
        · exact off p hp
      by_cases hlt : i < us.length
      · refine W.item i _ _ _ (by rw [hussz]; exact hlt) hst' fun T vals h₂ tk₂ hPv hsT hT hMid hk₂ => ?_
        obtain ⟨t, v, hv, rfl⟩ := hPv
        have hTw : T ∉ [e, it] := W.apart i T h₂ hMid
        refine W.go _ _ _ i T _ _ _ hMid fun h₃ hst₃ hk₃ => ?_
        have hT₃ : IsTup h₃ T #[.int i t, v] := by
          obtain ⟨o, q1, q2, n, q3⟩ := hT
          exact ⟨o, hk₃ T o hTw q1, q2, n, q3⟩
        have keep2 : ∀ b o, b ∉ [e, it] → h'.get? b = some o → h₃.get? b = some o := fun b o hb q => hk₃ b o hb (hk₂ b o hb q)
        have N₃ := news_two N' keep2 offD
        have F₃ := fr_two F' keep2 hLe hLi he₀ hi₀
        have hn₃ : h₃.Ns H2.objs.size m' := hn'.at' fun o q => keep2 _ o (by
          have h1 := (belowfp e (by simp)).1
          have h2 := (belowfp it (by simp)).1
          simp [Ne.symm h1, Ne.symm h2]) q
        refine assign_Tuple_tuple hh hT₃ rfl rfl fun h₅ hk₅ => ?_
        have hk₅' : ∀ b o, h₃.get? b = some o → h₅.get? b = some o := fun b o q => hk₅ b o (Nat.ne_of_lt (Heap.lt_size q)) q
        refine assignInOrder_cons (wpAny_assign_Name (wpAny_storeName_local (lookup_relabel_local hx) (hn₃.at' fun o q => hk₅' _ o q) (fun h₆ hn₆ hs₆ => ?_) (by simp [compEnvC, relabel, hkind])))
        refine assignInOrder_cons (wpAny_assign_Name (wpAny_storeName_local (lookup_relabel_local hx₂) hn₆ (fun h₇ hn₇ hs₇ => ?_) (by simp [compEnvC, relabel, hkind])))
        refine assignInOrder_nil ?_
        have keep7 : ∀ b o, b ≠ H2.objs.size → h₃.get? b = some o → h₇.get? b = some o := fun b o hb q => hs₇.extBut b o hb (hs₆.extBut b o hb (hk₅' b o q))
        have hst₇ := W.frame (i + 1) _ h₇ hst₃ fun b hb o q => keep7 b o (belowfp b hb).1 q
        obtain ⟨⟨ov, hE₇⟩, hI₇, hL₇⟩ := id hst₇
        obtain ⟨oi, hoi, hI₇'⟩ := id hI₇
        obtain ⟨oC, heC, hoC⟩ := ns_obj hn₇
        have F₇ : Fr h₀ L h₇ m := ((F₃.keeps hk₅').change hs₆ hCL hC₀).change hs₇ hCL hC₀
        have N₇ : News h₀ L h₇ ((s₂.heap.objs.size, lst ys) :: led) := fun p hp => by
          refine ⟨keep7 _ _ ?_ (N₃ p hp).1, (N₃ p hp).2⟩
          rcases List.mem_cons.mp hp with rfl | hp
          · exact hDC
          · exact (below _ (Heap.lt_size (N p hp).1)).1
        have hoff : Off3 e H2.objs.size s₂.heap.objs.size ((it, oi) :: led) := Off3.of fun p hp => by
          rcases List.mem_cons.mp hp with rfl | hp
          · exact ⟨Ne.symm hei, (belowfp it (by simp)).1, (belowfp it (by simp)).2⟩
          · exact ⟨(off p hp).1, (below _ (Heap.lt_size (N p hp).1)).1, (below _ (Heap.lt_size (N p hp).1)).2⟩
        refine wpAny_mono (turn i ys v t e { cls := .type "enumerate", dict := none, data := .fields #[.none, .bool false, .ref it, rawInt ((i + 1 : Nat) : Int), .none, ov], slots := #[] } it oi H2.objs.size oC s₂.heap.objs.size _ h₇ _ _ hJ' hv hoC (by simp [hxx]) (by simp) F₇ (fun p hp => ?_) hoff ⟨(belowfp e (by simp)).1, (belowfp e (by simp)).2, Ne.symm hDC⟩) (fun y s₄ h₄ => ?_) fun _ _ q => q
        · rcases List.mem_cons.mp hp with rfl | hp
          · exact ⟨hE₇, Ne.symm hLe, he₀⟩
          · rcases List.mem_cons.mp hp with rfl | hp
            · exact ⟨heC, hCL, hC₀⟩
            · rcases List.mem_cons.mp hp with rfl | hp
              · exact N₇ _ List.mem_cons_self
              · rcases List.mem_cons.mp hp with rfl | hp
                · exact ⟨hoi, Ne.symm hLi, hi₀⟩
                · exact N₇ p (List.mem_cons_of_mem _ hp)
        obtain ⟨h₄, tk₄, news₄, rfl, F₄, N₄, off₄, _, rfl, hJ₄⟩ := h₄
        have zE := (N₄ (e, _) List.mem_cons_self).1
        have zC := (N₄ (H2.objs.size, oC) (by simp)).1
        have zD := (N₄ (s₂.heap.objs.size, lst ys) (by simp)).1
        have zI := (N₄ (it, oi) (by simp)).1
        have N₄' : News h₀ L h₄ led := fun p hp => N₄ p (by simp [hp])
        have hst₄ : (∃ old, IsEnum h₄ e it ((i + 1 : Nat) : Int) old) ∧ h₄.IsListIter it l (i + 1) ∧ h₄.IsList l us.toArray := ⟨⟨_, zE⟩, ⟨oi, zI, hI₇'⟩, ⟨_, (N₄' _ hm).1, rfl, c, rfl⟩⟩
        refine append_at (hsz := by show ys.toArray.size ≤ sizeLine; rw [List.size_toArray, hyl]; exact Nat.le_trans hile hsz) zD fun h₅ hs₅ hD₅ => ?_
        have hDfp : ∀ b ∈ [e, it, l], b ≠ s₂.heap.objs.size := fun b hb => (belowfp b hb).2
        refine ⟨us.length + 1 - (i + 1), by omega, h₅, tk₄, i + 1, ys ++ [y], _, rfl, hlt, rfl, by rw [List.length_append, List.length_singleton, hyl], W.frame (i + 1) _ _ hst₄ fun b hb o q => hs₅.extBut b o (hDfp b hb) q, F₄.change hs₅ hDL hD₀,
          (hoC.ns zC).sameBut hs₅ (Ne.symm hDC), fun p hp => ?_, hJ₄⟩
        rcases List.mem_cons.mp hp with rfl | hp
        · exact ⟨hD₅.trans (congrArg some (lst_snoc ys y)), hDL, hD₀⟩
        · exact ⟨hs₅.extBut _ _ (below _ (Heap.lt_size (N p hp).1)).2 (N₄' p hp).1, (N₄' p hp).2⟩
      · have hin : i = us.length := Nat.le_antisymm hile (Nat.not_lt.mp hlt)
        subst hin
        refine W.done _ _ _ (by rw [hussz]; exact hst') fun h₂ tk₂ hk₂ => ?_
        have N₂ := news_two N' hk₂ offD
        refine hRR _ _ h₂ tk₂ _ ys (fr_two F' hk₂ hLe hLi he₀ hi₀) N₂ ?_ (hn'.at' fun o q => hk₂ _ o (by
          have h1 := (belowfp e (by simp)).1
          have h2 := (belowfp it (by simp)).1
          simp [Ne.symm h1, Ne.symm h2]) q) hC₀ hD₀ hCL hDL (Ne.symm hDC) (fun p hp => (below _ (Heap.lt_size (N p hp).1)).1) hJ'
        exact Off3.one (I := e) (C := H2.objs.size) (Off3.of fun p hp => ⟨(off p hp).1, (below _ (Heap.lt_size (N p hp).1)).1, (below _ (Heap.lt_size (N p hp).1)).2⟩)
    · rcases List.mem_cons.mp hp with rfl | hp
      · exact ⟨hacc, hDL, hD₀⟩
      · exact ⟨old _ _ (N p hp).1, (N p hp).2⟩
  obtain ⟨⟨ov, hE₁⟩, _, _⟩ := id hst₁
  exact codeAny_compStart_list (loop _ rfl) (wpAny_pyIter_enum hE₁ (loop _ rfl))
def SrcE (prog : Program) (w : World) (A : Around) (h₀ : Heap) (L : Addr) (m : Str → Option Value) (env : Env) (elt : Expr) (x x₂ : Str) (scope : Scope) (cl : List (Str × Addr)) (Fin : Shared → List Value → List (Addr × Obj) → Prop) (xv : Value) (s₁ : Shared) : Prop :=
  ∃ (e it l : Addr) (us : List Value) (c : Nat) (led : List (Addr × Obj)) (J : Nat → List Value → Prop), xv = .ref e ∧ A.handled = none ∧ us.length ≤ sizeLine ∧ Fr h₀ L s₁.heap m ∧ News h₀ L s₁.heap led ∧ (l, listOf us.toArray c) ∈ led ∧ IsEnum s₁.heap e it 0 .none ∧ s₁.heap.IsListIter it l 0 ∧ e ≠ it ∧ (∀ p ∈ led, p.1 ≠ e ∧ p.1 ≠ it) ∧
    h₀.get? e = none ∧ h₀.get? it = none ∧ L ≠ e ∧ L ≠ it ∧ J 0 [] ∧ (∀ s₂ : Shared, (∃ h, s₂ = { s₁ with heap := h }) → EnumTurn prog w A h₀ L m env elt x x₂ scope cl s₂ us.toArray led J ∧ ∀ ys, J us.length ys → Fin s₂ ys led)
/-- the call of enumerate over a list of the ledger -/
theorem call_enum {l : Addr} {us : List Value} {c : Nat} {led : List (Addr × Obj)} {Q : Value → Shared → Prop} (F : Fr h₀ L s.heap m) (N : News h₀ L s.heap led) (hm : (l, listOf us.toArray c) ∈ led)
    (h : ∀ e it h', e ≠ it → IsEnum h' e it 0 .none → h'.IsListIter it l 0 → Fr h₀ L h' m → News h₀ L h' led → (∀ p ∈ led, p.1 ≠ e ∧ p.1 ≠ it) → h₀.get? e = none → h₀.get? it = none → L ≠ e → L ≠ it → Q (.ref e) { s with heap := h' }) :
    wpAny (model prog w) A (call (.type "enumerate") [.ref l]) Q E s := by
  refine call_enumerate_list (isList_of N hm) fun h' he hi hz hk => ?_
  have fresh₀ : ∀ a, s.heap.objs.size ≤ a → h₀.get? a = none := fun a ha => by
    cases q : h₀.get? a with
    | none => rfl
    | some o' => exact absurd (Heap.lt_size (F.keep a o' q)) (Nat.not_lt.mpr ha)
  exact h _ _ h' (Nat.succ_ne_self _) he hi (F.keptAll hk) (fun p hp => ⟨hk _ _ (N p hp).1, (N p hp).2⟩)
    (fun p hp => ⟨Nat.ne_of_lt (Nat.lt_succ_of_lt (Heap.lt_size (N p hp).1)), Nat.ne_of_lt (Heap.lt_size (N p hp).1)⟩) (fresh₀ _ (Nat.le_succ _)) (fresh₀ _ (Nat.le_refl _)) (Nat.ne_of_lt (Nat.lt_succ_of_lt F.ns.lt)) (Nat.ne_of_lt F.ns.lt)
theorem Assign_ListComp_E {elt iter : Expr} {x x₂ y : Str} {px px₂ tp py : Pos} {tk} {scope : Scope} {cl : List (Str × Addr)} {pos spos : Pos} {Q : Flow → Shared → Prop} (F₀ : Fr h₀ L s.heap m) (hLe : env.locals = L)
    (hsw : swapsWith (.ListComp elt [⟨.Tuple [.Name x px, .Name x₂ px₂] tk tp, iter, [], 0⟩] scope pos) (some (.Name y py)) spos.line env = pure true)
    (hclos : closureFor scope env = pure cl) (hcell : ∀ z ∈ scope.names, z.2 ≠ .cell) (hkind : scope.kind = .function)
    (hnames : ∀ z ∈ scope.names, z.2 = .local → scope.names.lookup z.1 = some .local) (hx : scope.names.lookup x = some .local) (hx₂ : scope.names.lookup x₂ = some .local) (hxx : x ≠ x₂)
    (hy : env.kindOf y = some .local) (hp : (env.scope.kind == .class || (env.scope.kind == .module && env.locals != env.globals)) = false)
    (h : wpAny (model prog w) A (eval iter env) (SrcE prog w A h₀ L m env elt x x₂ scope cl (fun s₂ => FinA h₀ L m s₂ y Q)) E s)
    (hs : ∀ x, foldedSetIterable iter env x = pure x := by intro _; rfl) :
    wpAny (model prog w) A (exec (.Assign [.Name y py] (.ListComp elt [⟨.Tuple [.Name x px, .Name x₂ px₂] tk tp, iter, [], 0⟩] scope pos) spos) env) Q E s := by
  subst hLe
  rw [exec_Assign_Name_used _ _ _ _ hsw]
  refine wpAny_bind (wpAny_standAt (wpAny_bind ?_))
  show wpAny _ A (do let _ ← comprehension (.ListComp elt [⟨.Tuple [.Name x px, .Name x₂ px₂] tk tp, iter, [], 0⟩] scope pos) scope env _ (newList []) false (eval iter env) (some (assign (.Name y py) env))) _ _ s
  refine wpAny_bind (wpAny_mono (wpAny_comprehension_free (use := some (assign (.Name y py) env)) (Q := fun _ s' => Q .next s') rfl hs hclos hkind hnames
    (wpAny_mono h (fun xv s₁ h₁ => ?_) fun _ _ e => e)) (fun _ s' hq => wpAny_pure (wpAny_pure hq)) fun _ _ e => e)
  obtain ⟨e, it, l, us, c, led, J, rfl, hh, hsz, F, N, hm, he, hi, hei, off, he₀, hi₀, hLe, hLi, hJ, R⟩ := h₁
  refine wpAny_pyIter_enum he ?_
  obtain ⟨turn, fin⟩ := R s₁ ⟨_, rfl⟩
  refine block_E hh hsz hcell hkind hx hx₂ hxx F N hm he hi hei off he₀ hi₀ hLe hLi hJ turn ?_
  intro D C h' tk m' ys F' N' o1 hn hC₀ hD₀ hCL hDL hCD offC hJ'
  have fin := fin ys hJ'
  show wpAny _ A (assign (.Name y py) env (.ref D)) _ _ _
  refine wpAny_assign_Name (wpAny_storeName_local hy F'.ns (fun h₂ hn₂ hs₂ => ?_) hp)
  have hL₀ : h₀.get? env.locals = none := Heap.get?_none_of_le F'.above
  have F₂ : Fr h₀ env.locals h₂ (fun z => if z = y then some (.ref D) else m z) := ⟨hn₂, fun b o e => hs₂.extBut b o (fun q => by rw [q, hL₀] at e; cases e) (F'.keep b o e), F'.above⟩
  refine ⟨m', hn.sameBut hs₂ hCL, fun h'' hs'' => fin D h'' _ (F₂.change hs'' hCL hC₀) (fun p hp => ?_) o1⟩
  have z : h₂.get? p.1 = some p.2 := hs₂.extBut _ _ (N' p hp).2.1 (N' p hp).1
  refine ⟨hs''.extBut _ _ ?_ z, (N' p hp).2⟩
  rcases List.mem_cons.mp hp with rfl | hp
  · exact Ne.symm hCD
  · exact offC p hp
end
end Mine
namespace Mine
/-- the sum over the places j below k that n covers -/
def usum (n : Nat) (f : Int → Int) (p : Int) : Nat → Int
  | 0 => 0
  | j + 1 => usum n f p j + (if j &&& n = j then f (p - (j : Int)) else 0)
theorem and_ee (j m : Nat) : (2 * j) &&& (2 * m) = 2 * j ↔ j &&& m = j := by
  have h1 := @Nat.and_div_two (2 * j) (2 * m)
  have h2 := @Nat.and_mod_two_eq_one (2 * j) (2 * m)
  rw [show 2 * j / 2 = j by omega, show 2 * m / 2 = m by omega] at h1
  generalize (2 * j) &&& (2 * m) = x at *
  generalize j &&& m = y at *
  omega
theorem and_eo (j m : Nat) : (2 * j) &&& (2 * m + 1) = 2 * j ↔ j &&& m = j := by
  have h1 := @Nat.and_div_two (2 * j) (2 * m + 1)
  have h2 := @Nat.and_mod_two_eq_one (2 * j) (2 * m + 1)
  rw [show 2 * j / 2 = j by omega, show (2 * m + 1) / 2 = m by omega] at h1
  generalize (2 * j) &&& (2 * m + 1) = x at *
  generalize j &&& m = y at *
  omega
theorem and_oe (j m : Nat) : ¬ (2 * j + 1) &&& (2 * m) = 2 * j + 1 := by
  have h2 := @Nat.and_mod_two_eq_one (2 * j + 1) (2 * m)
  generalize (2 * j + 1) &&& (2 * m) = x at *
  omega
theorem and_oo (j m : Nat) : (2 * j + 1) &&& (2 * m + 1) = 2 * j + 1 ↔ j &&& m = j := by
  have h1 := @Nat.and_div_two (2 * j + 1) (2 * m + 1)
  have h2 := @Nat.and_mod_two_eq_one (2 * j + 1) (2 * m + 1)
  rw [show (2 * j + 1) / 2 = j by omega, show (2 * m + 1) / 2 = m by omega] at h1
  generalize (2 * j + 1) &&& (2 * m + 1) = x at *
  generalize j &&& m = y at *
  omega
theorem usum_even (m : Nat) (f : Int → Int) (p : Int) : ∀ k, usum (2 * m) f p (2 * k) = usum m (fun q => f (p + 2 * q)) 0 k ∧ usum (2 * m) f p (2 * k + 1) = usum m (fun q => f (p + 2 * q)) 0 (k + 1)
  | 0 => ⟨rfl, by
      have h : (2 * 0) &&& (2 * m) = 2 * 0 ↔ 0 &&& m = 0 := and_ee 0 m
      simp only [usum, Nat.zero_and, if_true, Int.natCast_zero, Int.mul_zero, Int.sub_zero, Int.add_zero]⟩
  | k + 1 => by
    have ih := (usum_even m f p k).2
    have h1 : usum (2 * m) f p (2 * (k + 1)) = usum m (fun q => f (p + 2 * q)) 0 (k + 1) := by
      rw [show 2 * (k + 1) = 2 * k + 1 + 1 from rfl, usum, if_neg (and_oe k m), ih, Int.add_zero]
    refine ⟨h1, ?_⟩
    rw [usum, h1, usum.eq_2 m _ _ (k + 1)]
    have h := and_ee (k + 1) m
    by_cases hb : (k + 1) &&& m = k + 1
    · rw [if_pos hb, if_pos (h.mpr hb)]
      congr 2
    · rw [if_neg hb, if_neg (fun e => hb (h.mp e))]
theorem usum_odd (m : Nat) (f : Int → Int) (p : Int) : ∀ k, usum (2 * m + 1) f p (2 * k) = usum m (fun q => f (p + 2 * q)) 0 k + usum m (fun q => f (p - 1 + 2 * q)) 0 k
  | 0 => rfl
  | k + 1 => by
    have ih := usum_odd m f p k
    have h1 := and_eo k m
    have h2 := and_oo k m
    rw [show 2 * (k + 1) = 2 * k + 1 + 1 from rfl, usum, usum, ih, usum, usum]
    by_cases hb : k &&& m = k
    · rw [if_pos hb, if_pos hb, if_pos (h1.mpr hb), if_pos (h2.mpr hb), show p + 2 * (0 - (k : Int)) = p - ((2 * k : Nat) : Int) by omega, show p - 1 + 2 * (0 - (k : Int)) = p - ((2 * k + 1 : Nat) : Int) by omega]
      omega
    · rw [if_neg hb, if_neg hb, if_neg (fun e => hb (h1.mp e)), if_neg (fun e => hb (h2.mp e))]
      omega
def tsum (n : Nat) (f : Int → Int) (p : Int) : Int := usum n f p (n + 1)
theorem tsum_even (m : Nat) (f : Int → Int) (p : Int) : tsum (2 * m) f p = tsum m (fun q => f (p + 2 * q)) 0 := (usum_even m f p m).2
theorem tsum_odd (m : Nat) (f : Int → Int) (p : Int) : tsum (2 * m + 1) f p = tsum m (fun q => f (p + 2 * q)) 0 + tsum m (fun q => f (p - 1 + 2 * q)) 0 := usum_odd m f p (m + 1)
theorem usum_shift (n : Nat) (f : Int → Int) (p d : Int) : ∀ k, usum n (fun q => f (q + d)) p k = usum n f (p + d) k
  | 0 => rfl
  | k + 1 => by
    rw [usum, usum, usum_shift n f p d k]
    rw [show p - (k : Int) + d = p + d - k by omega]
theorem tsum_shift (n : Nat) (f : Int → Int) (p d : Int) : tsum n (fun q => f (q + d)) p = tsum n f (p + d) := usum_shift n f p d _
theorem tsum_step : ∀ (b n : Nat), n ≤ b → ∀ (f : Int → Int) (p : Int), (tsum (n + 1) f p - (tsum n f p + tsum n f (p - 1))) % 2 = 0
  | 0, n, h, f, p => by
    obtain rfl : n = 0 := by omega
    have e1 : tsum 1 f p = f p + f (p - 1) := by simp [tsum, usum]
    have e2 : ∀ p, tsum 0 f p = f p := fun p => by simp [tsum, usum]
    rw [e1, e2, e2]; omega
  | b + 1, n, h, f, p => by
    rcases Nat.mod_two_eq_zero_or_one n with hn | hn
    · obtain ⟨m, rfl⟩ : ∃ m, n = 2 * m := ⟨n / 2, by omega⟩
      rw [tsum_odd, tsum_even, tsum_even]
      omega
    · obtain ⟨m, rfl⟩ : ∃ m, n = 2 * m + 1 := ⟨n / 2, by omega⟩
      rw [show 2 * m + 1 + 1 = 2 * (m + 1) by omega, tsum_even, tsum_odd, tsum_odd]
      have ih := tsum_step b m (by omega) (fun q => f (p + 2 * q)) 0
      have e : tsum m (fun q => f (p - 1 - 1 + 2 * q)) 0 = tsum m (fun q => f (p + 2 * q)) (0 - 1) := by
        have := tsum_shift m (fun q => f (p + 2 * q)) 0 (0 - 1)
        rw [Int.zero_add] at this
        rw [← this]
        congr 1
        funext q
        congr 1
        omega
      rw [e]
      omega
/-- a ring's number at any place, counted round -/
def at_ (ns : List Int) (q : Int) : Int := ns.getD (q.fmod ns.length).toNat 0
theorem fsel_sum (ns : List Int) (p : Int) (n : Nat) : ∀ k, (fsel (ns.length : Int) ns p n k).sum = usum n (at_ ns) p k
  | 0 => rfl
  | j + 1 => by
    rw [fsel, List.sum_append, fsel_sum ns p n j, usum]
    have hb : (Builtin.bitAnd (0 + (j : Int)) n = 0 + (j : Int)) ↔ j &&& n = j := by
      unfold Builtin.bitAnd
      rw [decide_eq_true (show (0 : Int) ≤ 0 + j by omega), decide_eq_true (show (0 : Int) ≤ (n : Int) by omega)]
      dsimp only
      rw [show (0 + (j : Int)).toNat = j by omega, show ((n : Int)).toNat = n by omega]
      omega
    by_cases h : j &&& n = j
    · rw [if_pos h, if_pos (hb.mpr h)]
      rw [Int.zero_add]
      simp [at_]
    · rw [if_neg h, if_neg fun e => h (hb.mp e)]
      simp
theorem fodd_iff (ns : List Int) (p : Int) (n : Nat) : fodd (ns.length : Int) ns p n ↔ (tsum n (at_ ns) p) % 2 = 1 := by
  unfold fodd
  rw [fsel_sum, fmod2]; rfl
theorem at_made {ns : List Int} (h : 0 < ns.length) (q : Int) : (at_ (made ns) q - (at_ ns q + at_ ns (q - 1))) % 2 = 0 := by
  have hl : (0 : Int) < (ns.length : Int) := by omega
  unfold at_
  rw [made_len]
  have h1 := Int.fmod_nonneg_of_pos q hl
  have h2 := Int.fmod_lt_of_pos q hl
  rw [made_get ns (by omega)]
  unfold dif
  have e : (((q.fmod ns.length).toNat + ns.length - 1) % ns.length) = ((q - 1).fmod ns.length).toNat := by
    have e1 : (((q.fmod ns.length).toNat + ns.length - 1 : Nat) : Int) = q.fmod ns.length + ns.length - 1 := by omega
    have e2 : ((((q.fmod ns.length).toNat + ns.length - 1) % ns.length : Nat) : Int) = (q - 1).fmod ns.length := by
      rw [Int.natCast_emod, e1, Int.fmod_eq_emod_of_nonneg _ (by omega), Int.fmod_eq_emod_of_nonneg _ (by omega)]
      rw [show q % (ns.length : Int) + ns.length - 1 = (q % (ns.length : Int) - 1) + ns.length by omega, Int.add_emod_right]
      rw [Int.sub_emod, Int.emod_emod_of_dvd _ (Int.dvd_refl _), ← Int.sub_emod]
    omega
  rw [e]
  generalize ns.getD (q.fmod ns.length).toNat 0 = x
  generalize ns.getD ((q - 1).fmod ns.length).toNat 0 = y
  unfold ab
  split <;> omega
theorem fo_fst (sz : Int) (ns : List Int) (n : Nat) (l : List Int) : ∀ (k : Nat) (i : Nat), (∀ j, j < k → (fodd sz ns ((i + j : Nat) : Int) n ↔ (l.getD (i + j) 0).fmod 2 = 1)) → i + k = l.length → fofrom sz ns n k (i : Int) = ((i + fstOdd (l.drop i) : Nat) : Int)
  | 0, i, _, hl => by
    rw [fofrom, List.drop_of_length_le (by omega)]; simp [fstOdd]
  | k + 1, i, h, hl => by
    have hi : i < l.length := by omega
    have h0 := h 0 (by omega)
    rw [Nat.add_zero] at h0
    unfold fodd at h0
    have hd : l.drop i = l.getD i 0 :: l.drop (i + 1) := by
      rw [List.drop_eq_getElem_cons hi, List.getD_eq_getElem?_getD, List.getElem?_eq_getElem hi]; rfl
    rw [fofrom, hd, fstOdd]
    by_cases hb : (l.getD i 0).fmod 2 = 1
    · rw [if_pos hb, if_pos (h0.mpr hb)]; rfl
    · rw [if_neg hb, if_neg fun e => hb (h0.mp e)]
      have := fo_fst sz ns n l k (i + 1) (fun j hj => by have := h (j + 1) (by omega); rwa [show i + 1 + j = i + (j + 1) by omega]) (by omega)
      rw [show ((i : Int) + 1) = ((i + 1 : Nat) : Int) by omega, this]
      omega
/-- the names' law: `n` turns behind `st` all parities stand in `r` -/
def Luc (st r : List Int) (n : Nat) : Prop := 0 < r.length ∧ st.length = r.length ∧ ∀ q, (at_ r q - tsum n (at_ st) q) % 2 = 0
theorem Luc.refl {r : List Int} (h : 0 < r.length) : Luc r r 0 := ⟨h, rfl, fun q => by simp [tsum, usum]⟩
theorem Luc.step {st r : List Int} {n : Nat} (h : Luc st r n) : Luc st (made r) (n + 1) := by
  obtain ⟨h1, h2, h3⟩ := h
  refine ⟨by rw [made_len]; exact h1, by rw [made_len]; exact h2, fun q => ?_⟩
  have a := at_made h1 q
  have b := h3 q
  have c := h3 (q - 1)
  have d := tsum_step n n (Nat.le_refl _) (at_ st) q
  omega
theorem Luc.first {st r : List Int} {n : Nat} (h : Luc st r n) : fofrom (r.length : Int) st (n + 1 : Nat) r.length 0 = (fstOdd (made r) : Int) := by
  obtain ⟨h1, h2, h3⟩ := h.step
  rw [made_len] at h1 h2
  have := fo_fst (r.length : Int) st (n + 1) (made r) r.length 0 (fun j hj => by
    rw [← h2, fodd_iff]
    have e := h3 ((0 + j : Nat) : Int)
    have e2 : at_ (made r) ((0 + j : Nat) : Int) = (made r).getD (0 + j) 0 := by
      unfold at_
      rw [made_len]
      congr 1
      rw [Int.fmod_eq_emod_of_nonneg _ (by omega), Int.emod_eq_of_lt (by omega) (by omega)]
      omega
    rw [e2] at e
    rw [fmod2]
    omega) (by rw [made_len]; omega)
  rw [show ((0 : Nat) : Int) = 0 from rfl] at this
  rw [this]; simp
end Mine
namespace Mine
theorem at_get {r : List Int} {i : Nat} (h : i < r.length) : at_ r (i : Int) = r.getD i 0 := by
  unfold at_
  rw [Int.fmod_eq_emod_of_nonneg _ (by omega), Int.emod_eq_of_lt (by omega) (by omega)]
  rfl
theorem at_per {r : List Int} (q : Int) (k : Int) : at_ r (q + r.length * k) = at_ r q := by
  unfold at_
  rw [Int.fmod_eq_emod_of_nonneg _ (by omega), Int.fmod_eq_emod_of_nonneg _ (by omega), Int.add_mul_emod_self_left]
theorem mem_at {r : List Int} {x : Int} (h : x ∈ r) : ∃ i : Nat, i < r.length ∧ at_ r i = x := by
  obtain ⟨i, hi, rfl⟩ := List.getElem_of_mem h
  refine ⟨i, hi, ?_⟩
  rw [at_get hi, List.getD_eq_getElem?_getD, List.getElem?_eq_getElem hi]; rfl
def it : Nat → List Int → List Int
  | 0, r => r
  | n + 1, r => nextRing (it n r)
theorem it_in {r : List Int} {B : Int} (hb : ∀ x ∈ r, 0 ≤ x ∧ x < B) (hB : 0 < B) : ∀ n, ∀ x ∈ it n r, 0 ≤ x ∧ x < B
  | 0 => hb
  | n + 1 => nextRing_in (it_in hb hB n) hB
end Mine
namespace Mine
open PySem.SeqAt
structure P1 where
  ring : List Int
  start : List Int
  since : Nat
  whole : Nat
def step1 (p : P1) : P1 :=
  { ring := nextRing p.ring
    start := if fstOdd (made p.ring) = p.ring.length then nextRing p.ring else p.start
    since := if fstOdd (made p.ring) = p.ring.length then 0 else p.since + 1
    whole := if fstOdd (made p.ring) = p.ring.length then p.whole + 1 else p.whole }
def run1 (z : List Int) : Nat → P1
  | 0 => ⟨z, z, 0, 0⟩
  | n + 1 => step1 (run1 z n)
def wds (u : Int) (r : List Int) : List (Array UInt8) := (List.range r.length).map fun j => (word (u * dif r j).natAbs).toArray
/-- the words at the head of the loop -/
def wordsAt (u : Int) (z : List Int) : Nat → List (Array UInt8)
  | 0 => []
  | n + 1 => wds u (run1 z n).ring
def halvedAt (z : List Int) : Nat → Nat
  | 0 => 0
  | n + 1 => (run1 z n).whole
theorem run1_it (z : List Int) : ∀ n, (run1 z n).ring = it n z
  | 0 => rfl
  | n + 1 => by rw [run1, step1, it, ← run1_it z n]
theorem run1_since (z : List Int) : ∀ n, (run1 z n).since ≤ n
  | 0 => Nat.le_refl _
  | n + 1 => by
    have := run1_since z n
    rw [run1, step1]
    dsimp only
    split <;> omega
theorem run1_luc {z : List Int} (h : 0 < z.length) : ∀ n, (run1 z n).ring.length = z.length ∧ (run1 z n).start.length = z.length ∧ Luc (run1 z n).start (run1 z n).ring (run1 z n).since
  | 0 => ⟨rfl, rfl, Luc.refl h⟩
  | n + 1 => by
    obtain ⟨h1, h3, h2⟩ := run1_luc h n
    have hl : (nextRing (run1 z n).ring).length = z.length := by rw [nextRing_len, h1]
    rw [run1, step1]
    by_cases hw : fstOdd (made (run1 z n).ring) = (run1 z n).ring.length
    · simp only [if_pos hw]
      exact ⟨hl, hl, Luc.refl (by omega)⟩
    · simp only [if_neg hw]
      refine ⟨hl, h3, ?_⟩
      unfold nextRing
      rw [if_neg hw]
      exact h2.step
theorem run1_in {z : List Int} {B : Int} (hb : ∀ x ∈ z, 0 ≤ x ∧ x < B) (hB : 0 < B) (n : Nat) : ∀ x ∈ (run1 z n).ring, 0 ≤ x ∧ x < B := by
  rw [run1_it]; exact it_in hb hB n
/-- how many are above nought -/
def posNum (r : List Int) : Nat := (r.filter fun x => decide (0 < x)).length
/-- the loop goes on -/
def Goes (z : List Int) (lat n : Nat) : Prop := n < lat ∧ (n = 0 ∨ (8 : Int) - 2 * (z.length : Int) < (posNum (run1 z n).ring : Int))
structure LS1 where
  R : Addr
  S : Addr
  W : Addr
  D : Addr
  vr : List Value
  vs : List Value
  vw : List Value
  vd : List Value
  cr : Nat
  cs : Nat
  cw : Nat
  cd : Nat
  oR : Obj
/-- the loop's ledger; the cells but the ring's stay as they were -/
def Led1 (L : Addr) (o1 o2 o3 o4 : Obj) (c : LS1) : List (Addr × Obj) :=
  [(c.R, listOf c.vr.toArray c.cr), (c.S, listOf c.vs.toArray c.cs), (c.W, listOf c.vw.toArray c.cw), (c.D, listOf c.vd.toArray c.cd), (L + 1 + 1 + 1 + 1 + 1, c.oR), (L + 1 + 1 + 1 + 1, o4), (L + 1 + 1 + 1, o3), (L + 1 + 1, o2), (L + 1, o1)]
structure JL1 (zs : List Int) (u : Int) (lat n : Nat) (c : LS1) (m : Str → Option Value) : Prop where
  le : n ≤ lat
  vr : IntsAre c.vr (run1 zs n).ring
  vs : IntsAre c.vs (run1 zs n).start
  vw : BytesAre c.vw (wordsAt u zs n)
  vd : IntsAre c.vd zs
  ring : c.oR.data = .cell (some (.ref c.R))
  start : m (Str.ofString "start") = some (.ref c.S)
  words : m (Str.ofString "words") = some (.ref c.W)
  drawn : m (Str.ofString "drawn") = some (.ref c.D)
  latest : ∃ t, m (Str.ofString "latest") = some (.int (lat : Int) t)
  turns : ∃ t, m (Str.ofString "turns") = some (.int (n : Int) t)
  since : ∃ t, m (Str.ofString "since") = some (.int ((run1 zs n).since : Int) t)
  halved : ∃ t, m (Str.ofString "halved") = some (.int (halvedAt zs n : Int) t)
  whole : ∃ t, m (Str.ofString "whole") = some (.int ((run1 zs n).whole : Int) t)
/-- how the loop is left -/
def WOut (h₀ : Heap) (L : Addr) (o1 o2 o3 o4 : Obj) (zs : List Int) (u : Int) (lat : Nat) (s : Shared) (f : Flow) (s' : Shared) : Prop :=
  f = .next ∧ ∃ (n : Nat) (c : LS1) (h' : Heap) (tk : Nat) (m' : Str → Option Value), s' = { s with heap := h', toks := tk } ∧ Fr h₀ L h' m' ∧ News h₀ L h' (Led1 L o1 o2 o3 o4 c) ∧ JL1 zs u lat n c m' ∧ ¬ Goes zs lat n
theorem JL1.of {L : Addr} {o1 o2 o3 o4 : Obj} {zs : List Int} {u : Int} {lat n k : Nat} {m : Str → Option Value} {news : List (Addr × Obj)} {R S' W D : Addr} {vr vs vw vd : List Value} {cr cs cw cd : Nat} {oR : Obj} {tl tt ts th tw : Tok} {xs xh xw : Int}
    {h₀ h : Heap} (_F : Fr h₀ L h m) (_N : News h₀ L h news)
    (m5 : (L + 1 + 1 + 1 + 1 + 1, oR) ∈ news) (dR : oR.data = .cell (some (.ref R))) (mR : (R, listOf vr.toArray cr) ∈ news) (hstart : m (Str.ofString "start") = some (.ref S')) (mS : (S', listOf vs.toArray cs) ∈ news)
    (hwords : m (Str.ofString "words") = some (.ref W)) (mW : (W, listOf vw.toArray cw) ∈ news) (hdrawn : m (Str.ofString "drawn") = some (.ref D)) (mD : (D, listOf vd.toArray cd) ∈ news)
    (m4 : (L + 1 + 1 + 1 + 1, o4) ∈ news) (m3 : (L + 1 + 1 + 1, o3) ∈ news) (m2 : (L + 1 + 1, o2) ∈ news) (m1 : (L + 1, o1) ∈ news)
    (hlatest : m (Str.ofString "latest") = some (.int (lat : Int) tl)) (hturns : m (Str.ofString "turns") = some (.int (n : Int) tt))
    (hsince : m (Str.ofString "since") = some (.int xs ts)) (hhalved : m (Str.ofString "halved") = some (.int xh th)) (hwhole : m (Str.ofString "whole") = some (.int xw tw))
    (hk : n + k = lat) (hxs : xs = ((run1 zs n).since : Int)) (hxh : xh = (halvedAt zs n : Int)) (hxw : xw = ((run1 zs n).whole : Int)) (hr : IntsAre vr (run1 zs n).ring) (hs : IntsAre vs (run1 zs n).start) (hw : BytesAre vw (wordsAt u zs n)) (hd : IntsAre vd zs) :
    ∃ c : LS1, (∀ p ∈ Led1 L o1 o2 o3 o4 c, p ∈ news) ∧ JL1 zs u lat n c m := by
  subst hxs hxh hxw
  refine ⟨⟨R, S', W, D, vr, vs, vw, vd, cr, cs, cw, cd, oR⟩, fun p hp => ?_, by omega, hr, hs, hw, hd, dR, hstart, hwords, hdrawn, ⟨_, hlatest⟩, ⟨_, hturns⟩, ⟨_, hsince⟩, ⟨_, hhalved⟩, ⟨_, hwhole⟩⟩
  unfold Led1 at hp
  simp only [List.mem_cons, List.not_mem_nil, or_false] at hp
  rcases hp with rfl | rfl | rfl | rfl | rfl | rfl | rfl | rfl | rfl <;> assumption
def WEnd (h₀ : Heap) (L : Addr) (o1 o2 o3 o4 : Obj) (zs : List Int) (u : Int) (lat n : Nat) (s : Shared) (f : Flow) (s' : Shared) : Prop :=
  f = .next ∧ ∃ (c : LS1) (h' : Heap) (tk : Nat) (m' : Str → Option Value), s' = { s with heap := h', toks := tk } ∧ Fr h₀ L h' m' ∧ News h₀ L h' (Led1 L o1 o2 o3 o4 c) ∧ JL1 zs u lat n c m'
def TOut (h₀ : Heap) (L : Addr) (o1 o2 o3 o4 : Obj) (zs : List Int) (lat n : Nat) (c : LS1) (m : Str → Option Value) (s : Shared) (b : Bool) (s₂ : Shared) : Prop :=
  ∃ (h₂ : Heap) (tk₂ : Nat), s₂ = { s with heap := h₂, toks := tk₂ } ∧ Fr h₀ L h₂ m ∧ News h₀ L h₂ (Led1 L o1 o2 o3 o4 c) ∧ (b = true ↔ Goes zs lat n)
theorem While_law {prog : Program} {w : World} {A : Around} {E : Value → Shared → Prop} {Q : Flow → Shared → Prop} {s : Shared} {env : Env} {h₀ : Heap} {L : Addr} {test : Expr} {body : List Stmt} {pos : Pos} {m : Str → Option Value} {o1 o2 o3 o4 : Obj} {zs : List Int} {u : Int} {lat : Nat} {c0 : LS1}
    (F : Fr h₀ L s.heap m) (N : News h₀ L s.heap (Led1 L o1 o2 o3 o4 c0)) (hJ : JL1 zs u lat 0 c0 m)
    (ask : ∀ n c m₁ h₁ tk₁, n ≤ lat → Fr h₀ L h₁ m₁ → News h₀ L h₁ (Led1 L o1 o2 o3 o4 c) → JL1 zs u lat n c m₁ →
      wpAny (model prog w) A (isTrue test env (eval test env)) (TOut h₀ L o1 o2 o3 o4 zs lat n c m₁ s) E { s with heap := h₁, toks := tk₁ })
    (turn : ∀ n c m₁ h₁ tk₁, n < lat → Fr h₀ L h₁ m₁ → News h₀ L h₁ (Led1 L o1 o2 o3 o4 c) → JL1 zs u lat n c m₁ →
      wpAny (model prog w) A (execs body env) (WEnd h₀ L o1 o2 o3 o4 zs u lat (n + 1) s) E { s with heap := h₁, toks := tk₁ })
    (post : ∀ n c m₁ h₁ tk₁, Fr h₀ L h₁ m₁ → News h₀ L h₁ (Led1 L o1 o2 o3 o4 c) → JL1 zs u lat n c m₁ → ¬ Goes zs lat n → Q .next { s with heap := h₁, toks := tk₁ })
    (hE : PassesOwn (model prog w) A env E := by passes_own) :
    wpAny (model prog w) A (exec (.While test body [] pos) env) Q E s := by
  refine wpAny_mono (Q := WOut h₀ L o1 o2 o3 o4 zs u lat s) (While_inv2 (fun k m news => ∃ (n : Nat) (c : LS1), n + k = lat ∧ news = Led1 L o1 o2 o3 o4 c ∧ JL1 zs u lat n c m) (n₀ := lat) F N ⟨0, c0, by omega, rfl, hJ⟩ ?_ hE) (fun f s' h => ?_) fun _ _ e => e
  · rintro k m₁ news₁ h₁ tk₁ F₁ N₁ ⟨n, c, hnk, rfl, hJ₁⟩
    refine wpAny_mono (ask n c m₁ h₁ tk₁ (by omega) F₁ N₁ hJ₁) (fun b s₂ hb => ?_) fun _ _ e => e
    obtain ⟨h₂, tk₂, rfl, F₂, N₂, hb⟩ := hb
    cases b with
    | false =>
      exact ⟨rfl, n, c, h₂, tk₂, m₁, rfl, F₂, N₂, hJ₁, fun q => by cases hb.mpr q⟩
    | true =>
      simp only [if_true]
      refine wpAny_mono (turn n c m₁ h₂ tk₂ (hb.mp rfl).1 F₂ N₂ hJ₁) (fun f s₃ hf => ?_) fun _ _ e => e
      obtain ⟨rfl, c', h', tk, m', rfl, F', N', hJ'⟩ := hf
      exact ⟨h', tk, m', _, k - 1, rfl, F', N', by have := hJ'.le; omega, n + 1, c', by have := hJ'.le; omega, rfl, hJ'⟩
  · obtain ⟨rfl, n, c, h', tk, m', rfl, F', N', hJ', hg⟩ := h
    exact post n c m' h' tk F' N' hJ' hg
/-- the ways through an if meet again -/
def IfOut (h₀ : Heap) (L : Addr) (m : Str → Option Value) (led : List (Addr × Obj)) (s : Shared) (f : Flow) (s' : Shared) : Prop :=
  f = .next ∧ ∃ (h' : Heap) (tk : Nat), s' = { s with heap := h', toks := tk } ∧ Fr h₀ L h' m ∧ News h₀ L h' led
def IfMark : Prop := True
theorem if_join {M : Model} {A : Around} {E : Value → Shared → Prop} {Q : Flow → Shared → Prop} {s : Shared} {st : Stmt} {env : Env} {h₀ : Heap} {L : Addr} {m : Str → Option Value} {led : List (Addr × Obj)} (_F : Fr h₀ L s.heap m) (_N : News h₀ L s.heap led)
    (h : IfMark → wpAny M A (exec st env) (IfOut h₀ L m led s) E s) (k : ∀ h' tk, Fr h₀ L h' m → News h₀ L h' led → Q .next { s with heap := h', toks := tk }) : wpAny M A (exec st env) Q E s :=
  wpAny_mono (h trivial) (fun f s' ⟨e, h', tk, e2, F', N'⟩ => by subst e; subst e2; exact k h' tk F' N') fun _ _ e => e
theorem IfOut.intro {h₀ : Heap} {L : Addr} {m : Str → Option Value} {led all : List (Addr × Obj)} {s : Shared} {h' : Heap} {tk : Nat} (F : Fr h₀ L h' m) (N : News h₀ L h' all) (sub : ∀ p ∈ led, p ∈ all) : IfOut h₀ L m led s .next { s with heap := h', toks := tk } :=
  ⟨rfl, h', tk, rfl, F, fun p hp => N p (sub p hp)⟩
theorem digit_nat : ∀ k : Nat, k < 10 → Str.ofString (toString (k : Int)) = S [48 + k] := by decide +kernel
theorem digit_S {x : Int} (h : 0 ≤ x ∧ x < 10) : Str.ofString (toString x) = S [48 + x.toNat] := by
  obtain ⟨k, rfl⟩ := Int.eq_ofNat_of_zero_le h.1
  exact digit_nat k (by omega)
theorem ne_str1 {prog : Program} {w : World} {A : Around} {E : Value → Shared → Prop} {s : Shared} {l m : Addr} {x : Str} {t u : Tok} {Q : Value → Shared → Prop} (hl : s.heap.IsList l #[.str x t]) (hm : s.heap.IsList m #[.str x u]) (hu : A.units < cLine)
    (h : Q (.bool false) s) : wpAny (model prog w) A (compareOp .NotEq (.ref l) (.ref m)) Q E s := by
  have := RcNeAt.lists (A := A) (s := s) (e := fun _ => true) hl hm rfl hu (fun j h1 h2 => by
    obtain rfl : j = 0 := by simp at h1; omega
    have := EqAt.str_str (A := A.in1) (s := s) x t x u
    rw [beq_self_eq_true] at this
    exact this)
  refine this prog w E Q ?_
  have e : (!(List.range (#[Value.str x t] : Array Value).size).all fun _ => true) = false := by simp
  rw [e]; exact h
theorem blank_eq : Str.ofString " " = S [32] := by decide
theorem told_blank {sg : Nat} (h : (S [sg] == Str.ofString " ") = true) : sg = 32 := by
  rw [blank_eq] at h
  have := S_inj (eq_of_beq h)
  simpa using this
theorem told_other {sg : Nat} (h : (S [sg] == Str.ofString " ") = false) : sg ≠ 32 := by
  rintro rfl
  rw [blank_eq, beq_self_eq_true] at h
  cases h
theorem told_no {sg : Nat} {body : List Nat} (h : sg ≠ 32) : told sg 34 body = Str.ofString "" := by
  unfold told
  rw [if_neg (fun q => h q.1), none_eq]
theorem told_no2 {sg : Nat} {body : List Nat} (h : sg ≠ 34) : told 32 sg body = Str.ofString "" := by
  unfold told
  rw [if_neg (fun q => h q.2), none_eq]
theorem run1_yes {z : List Int} {n : Nat} (h : fstOdd (made (run1 z n).ring) = (run1 z n).ring.length) : run1 z (n + 1) = ⟨(made (run1 z n).ring).map (fun x => x.fdiv 2), (made (run1 z n).ring).map (fun x => x.fdiv 2), 0, (run1 z n).whole + 1⟩ := by
  have e : nextRing (run1 z n).ring = (made (run1 z n).ring).map (fun x => x.fdiv 2) := by unfold nextRing; rw [if_pos h]
  rw [run1, step1, if_pos h, if_pos h, if_pos h, e]
theorem run1_no {z : List Int} {n : Nat} (h : ¬ fstOdd (made (run1 z n).ring) = (run1 z n).ring.length) : run1 z (n + 1) = ⟨made (run1 z n).ring, (run1 z n).start, (run1 z n).since + 1, (run1 z n).whole⟩ := by
  have e : nextRing (run1 z n).ring = made (run1 z n).ring := by unfold nextRing; rw [if_neg h]
  rw [run1, step1, if_neg h, if_neg h, if_neg h, e]
end Mine
namespace Mine
/-- what divides all differences of three -/
def gz (r : List Int) : Nat := Int.gcd (r.getD 0 0 - r.getD 1 0) (r.getD 1 0 - r.getD 2 0)
theorem comb (α β : Int) {d p q x : Int} (hp : d ∣ p) (hq : d ∣ q) (e : x = α * p + β * q) : d ∣ x := by
  subst e
  exact Int.dvd_add (Int.dvd_trans hp (Int.dvd_mul_left _ _)) (Int.dvd_trans hq (Int.dvd_mul_left _ _))
theorem gcd_same {p q p' q' : Int} (h1 : ∀ d : Int, d ∣ p → d ∣ q → d ∣ p' ∧ d ∣ q') (h2 : ∀ d : Int, d ∣ p' → d ∣ q' → d ∣ p ∧ d ∣ q) : Int.gcd p q = Int.gcd p' q' := by
  have a := h1 _ (Int.gcd_dvd_left p q) (Int.gcd_dvd_right p q)
  have b := h2 _ (Int.gcd_dvd_left p' q') (Int.gcd_dvd_right p' q')
  exact Nat.dvd_antisymm (Int.ofNat_dvd.mp (Int.dvd_coe_gcd a.1 a.2)) (Int.ofNat_dvd.mp (Int.dvd_coe_gcd b.1 b.2))
theorem three {r : List Int} (h : r.length = 3) : ∃ a b c, r = [a, b, c] := by
  match r, h with
  | [a, b, c], _ => exact ⟨a, b, c, rfl⟩
theorem made3 (a b c : Int) : made [a, b, c] = [ab (a - c), ab (b - a), ab (c - b)] := by with_unfolding_all rfl
theorem ab_or (x : Int) : (0 ≤ x ∧ ab x = x) ∨ (x < 0 ∧ ab x = -x) := by unfold ab; split <;> omega
theorem gz3 (a b c : Int) : gz [a, b, c] = Int.gcd (a - b) (b - c) := rfl
theorem dvd_ab {d x : Int} : d ∣ ab x ↔ d ∣ x := by
  unfold ab
  split
  · exact Int.dvd_neg
  · exact Iff.rfl
theorem tri_abs (a b c : Int) : ab (a - c) = ab (b - a) + ab (c - b) ∨ ab (b - a) = ab (c - b) + ab (a - c) ∨ ab (c - b) = ab (a - c) + ab (b - a) := by
  rcases ab_or (a - c) with ⟨e1, e2⟩ | ⟨e1, e2⟩ <;> rcases ab_or (b - a) with ⟨f1, f2⟩ | ⟨f1, f2⟩ <;> rcases ab_or (c - b) with ⟨g1, g2⟩ | ⟨g1, g2⟩ <;> rw [e2, f2, g2] <;> clear e2 f2 g2 <;>
  first | (exact .inl (by omega)) | (exact .inr (.inl (by omega))) | (exact .inr (.inr (by omega)))
theorem dvd_tri {d p q r : Int} (h : p = q + r ∨ q = r + p ∨ r = p + q) (h1 : d ∣ p - q) (h2 : d ∣ q - r) : d ∣ q ∧ d ∣ r := by
  rcases h with e | e | e
  · exact ⟨comb 1 1 h1 h2 (by omega), comb 1 0 h1 h2 (by omega)⟩
  · exact ⟨comb (-1) 1 h1 h2 (by omega), comb (-1) 0 h1 h2 (by omega)⟩
  · exact ⟨comb (-1) (-1) h1 h2 (by omega), comb (-1) (-2) h1 h2 (by omega)⟩
theorem gz_made (a b c : Int) : gz (made [a, b, c]) = gz [a, b, c] := by
  rw [made3, gz3, gz3]
  refine gcd_same ?_ ?_
  · intro d hp hq
    obtain ⟨h1, h2⟩ := dvd_tri (tri_abs a b c) hp hq
    have h1 := dvd_ab.mp h1
    have h2 := dvd_ab.mp h2
    exact ⟨comb (-1) 0 h1 h2 (by omega), comb 0 (-1) h1 h2 (by omega)⟩
  · intro d hp hq
    have h1 : d ∣ ab (b - a) := dvd_ab.mpr (comb (-1) 0 hp hq (by omega))
    have h2 : d ∣ ab (c - b) := dvd_ab.mpr (comb 0 (-1) hp hq (by omega))
    have h3 : d ∣ ab (a - c) := dvd_ab.mpr (comb 1 1 hp hq (by omega))
    exact ⟨comb 1 (-1) h3 h1 (by omega), comb 1 (-1) h1 h2 (by omega)⟩
theorem gz_half {a b c : Int} (ha : a % 2 = 0) (hb : b % 2 = 0) (hc : c % 2 = 0) : gz (([a, b, c] : List Int).map fun x => x.fdiv 2) * 2 = gz [a, b, c] := by
  show gz [a.fdiv 2, b.fdiv 2, c.fdiv 2] * 2 = _
  rw [gz3, gz3, fdiv2, fdiv2, fdiv2]
  rw [show a - b = 2 * (a / 2 - b / 2) by omega, show b - c = 2 * (b / 2 - c / 2) by omega, Int.gcd_mul_left]
  show _ = 2 * _
  omega
/-- the last turn's measure, three numbers: halved so often -/
theorem gz_run {z : List Int} (hl : z.length = 3) : ∀ n, gz (run1 z n).ring * 2 ^ (run1 z n).whole = gz z
  | 0 => by show gz z * 2 ^ 0 = _; omega
  | n + 1 => by
    have ih := gz_run hl n
    have hr := (run1_luc (z := z) (by omega) n).1
    rw [hl] at hr
    obtain ⟨a, b, c, he⟩ := three hr
    have hm := gz_made a b c
    rw [← he] at hm
    by_cases hw : fstOdd (made (run1 z n).ring) = (run1 z n).ring.length
    · rw [run1_yes hw]
      dsimp only
      have hev := fstOdd_all (hw.trans (made_len _).symm)
      have hh : gz ((made (run1 z n).ring).map fun x => x.fdiv 2) * 2 = gz (made (run1 z n).ring) := by
        rw [he, made3] at hev ⊢
        refine gz_half ?_ ?_ ?_
        · have := hev _ (.head _); rw [fmod2] at this; omega
        · have := hev _ (.tail _ (.head _)); rw [fmod2] at this; omega
        · have := hev _ (.tail _ (.tail _ (.head _))); rw [fmod2] at this; omega
      rw [Nat.pow_succ, Nat.mul_comm (2 ^ _) 2, ← Nat.mul_assoc, hh, hm, ih]
    · rw [run1_no hw]
      dsimp only
      rw [hm, ih]
/-- one is the sum of the others -/
def Tri (r : List Int) : Prop := ∃ a b c : Int, r = [a, b, c] ∧ 0 ≤ a ∧ 0 ≤ b ∧ 0 ≤ c ∧ (a = b + c ∨ b = c + a ∨ c = a + b)
theorem tri_made {r : List Int} (h : r.length = 3) : Tri (made r) := by
  obtain ⟨a, b, c, rfl⟩ := three h
  exact ⟨_, _, _, made3 a b c, ab_nonneg _, ab_nonneg _, ab_nonneg _, tri_abs a b c⟩
theorem half_of {x : Int} (h : x.fmod 2 ≠ 1) : x = 2 * x.fdiv 2 := by rw [fmod2] at h; rw [fdiv2]; omega
theorem half_pos {x : Int} (h : 0 ≤ x) : 0 ≤ x.fdiv 2 := by rw [fdiv2]; omega
theorem half_sum2 {x y z : Int} (hx : x = 2 * x.fdiv 2) (hy : y = 2 * y.fdiv 2) (hz : z = 2 * z.fdiv 2) (h : x = y + z) : x.fdiv 2 = y.fdiv 2 + z.fdiv 2 := by omega
theorem tri_half {r : List Int} (h : Tri r) (he : ∀ x ∈ r, x.fmod 2 ≠ 1) : Tri (r.map fun x => x.fdiv 2) := by
  obtain ⟨a, b, c, rfl, h1, h2, h3, h4⟩ := h
  have ea := half_of (he a (.head _))
  have eb := half_of (he b (.tail _ (.head _)))
  have ec := half_of (he c (.tail _ (.tail _ (.head _))))
  refine ⟨_, _, _, rfl, half_pos h1, half_pos h2, half_pos h3, ?_⟩
  rcases h4 with e | e | e
  · exact .inl (half_sum2 ea eb ec e)
  · exact .inr (.inl (half_sum2 eb ec ea e))
  · exact .inr (.inr (half_sum2 ec ea eb e))
theorem nextRing_or (r : List Int) : nextRing r = made r ∨ (nextRing r = (made r).map (fun x => x.fdiv 2) ∧ ∀ x ∈ made r, x.fmod 2 ≠ 1) := by
  unfold nextRing
  by_cases hw : fstOdd (made r) = r.length
  · rw [if_pos hw]
    exact .inr ⟨rfl, fstOdd_all (hw.trans (made_len r).symm)⟩
  · rw [if_neg hw]
    exact .inl rfl
theorem tri_next {r : List Int} (h : r.length = 3) : Tri (nextRing r) := by
  rcases nextRing_or r with e | ⟨e, he⟩
  · rw [e]; exact tri_made h
  · rw [e]; exact tri_half (tri_made h) he
theorem next_le {r : List Int} {K : Int} (hK : 0 ≤ K) (h : ∀ x ∈ made r, x ≤ K) : ∀ x ∈ nextRing r, x ≤ K := by
  rcases nextRing_or r with e | ⟨e, he⟩
  · rw [e]; exact h
  · rw [e]
    intro x hx
    obtain ⟨y, hy, rfl⟩ := List.mem_map.mp hx
    have := h y hy
    have := made_nonneg r y hy
    rw [fdiv2]; omega
theorem next_zero {r : List Int} : (0 : Int) ∈ nextRing r ↔ (0 : Int) ∈ made r := by
  rcases nextRing_or r with e | ⟨e, he⟩
  · rw [e]
  · rw [e, List.mem_map]
    constructor
    · rintro ⟨y, hy, h0⟩
      have h1 := made_nonneg r y hy
      have h2 := he y hy
      rw [fdiv2] at h0
      rw [fmod2] at h2
      obtain rfl : y = 0 := by omega
      exact hy
    · intro h
      exact ⟨0, h, rfl⟩
theorem tri_keep {r : List Int} (h : Tri r) (h0 : (0 : Int) ∈ r) : (0 : Int) ∈ nextRing r := by
  rw [next_zero]
  obtain ⟨a, b, c, rfl, h1, h2, h3, h4⟩ := h
  rw [made3]
  simp only [List.mem_cons, List.not_mem_nil, or_false] at h0 ⊢
  rcases h0 with e | e | e
  · rw [show c - b = 0 by omega]; exact .inr (.inr rfl)
  · rw [show a - c = 0 by omega]; exact .inl rfl
  · rw [show b - a = 0 by omega]; exact .inr (.inl rfl)
theorem pos_of {x : Int} (h : 0 ≤ x) (n : ¬ 0 = x) : 0 < x := by omega
theorem pred_nn {x K : Int} (h : 0 < x) (k : x ≤ K) : 0 ≤ K - 1 := by omega
theorem ab_lt {x y K : Int} (hx : 0 < x) (hy : 0 < y) (kx : x ≤ K) (ky : y ≤ K) : ab (x - y) ≤ K - 1 := by unfold ab; split <;> omega
theorem tri_down {r : List Int} {K : Int} (h : Tri r) (h0 : ¬ (0 : Int) ∈ r) (hK : ∀ x ∈ r, x ≤ K) : ∀ x ∈ nextRing r, x ≤ K - 1 := by
  obtain ⟨a, b, c, rfl, h1, h2, h3, h4⟩ := h
  have ka := hK a (.head _)
  have kb := hK b (.tail _ (.head _))
  have kc := hK c (.tail _ (.tail _ (.head _)))
  simp only [List.mem_cons, List.not_mem_nil, or_false, not_or] at h0
  obtain ⟨na, nb, nc⟩ := h0
  have pa : 0 < a := pos_of h1 na
  have pb : 0 < b := pos_of h2 nb
  have pc : 0 < c := pos_of h3 nc
  refine next_le (pred_nn pa ka) ?_
  rw [made3]
  intro x hx
  simp only [List.mem_cons, List.not_mem_nil, or_false] at hx
  rcases hx with rfl | rfl | rfl
  · exact ab_lt pa pc ka kc
  · exact ab_lt pb pa kb ka
  · exact ab_lt pc pb kc kb
theorem low_top {r : List Int} (_hb : ∀ x ∈ r, 0 ≤ x) : ∀ x ∈ r, ∀ y ∈ r, x - y ≤ topOf r - lowOf r := fun x hx y hy => by
  have h1 := le_topOf x hx
  have h2 := lowOf_le y hy
  omega
theorem tri_first {r : List Int} {K : Int} (hl : r.length = 3) (h : ∀ x ∈ r, ∀ y ∈ r, x - y ≤ K) : ∀ x ∈ nextRing r, x ≤ K := by
  obtain ⟨a, b, c, rfl⟩ := three hl
  have h1 : ∀ x y : Int, x ∈ [a, b, c] → y ∈ [a, b, c] → ab (x - y) ≤ K := fun x y hx hy => by
    have := h x hx y hy
    have := h y hy x hx
    unfold ab; split <;> omega
  refine next_le (by have := h a (.head _) a (.head _); omega) ?_
  rw [made3]
  intro x hx
  simp only [List.mem_cons, List.not_mem_nil, or_false] at hx
  rcases hx with rfl | rfl | rfl <;> exact h1 _ _ (by simp) (by simp)
theorem run1_next (z : List Int) (n : Nat) : (run1 z (n + 1)).ring = nextRing (run1 z n).ring := by rw [run1, step1]
theorem tri_run {z : List Int} (hl : z.length = 3) (hb : ∀ x ∈ z, 0 ≤ x) : ∀ n : Nat, Tri (run1 z (n + 1)).ring ∧ ((0 : Int) ∈ (run1 z (n + 1)).ring ∨ ∀ x ∈ (run1 z (n + 1)).ring, x ≤ topOf z - lowOf z - (n : Int))
  | 0 => by
    rw [run1_next]
    refine ⟨tri_next (r := z) hl, .inr ?_⟩
    have := tri_first (r := z) hl (low_top hb)
    intro x hx
    have := this x hx
    omega
  | n + 1 => by
    obtain ⟨h1, h2⟩ := tri_run hl hb n
    have hr := (run1_luc (z := z) (by omega) (n + 1)).1
    rw [run1_next z (n + 1)]
    refine ⟨tri_next (by omega), ?_⟩
    by_cases h0 : (0 : Int) ∈ (run1 z (n + 1)).ring
    · exact .inl (tri_keep h1 h0)
    · have h2 := h2.resolve_left h0
      right
      have := tri_down h1 h0 h2
      intro x hx
      have := this x hx
      omega
theorem posNum3 {a b c : Int} (ha : 0 ≤ a) (hb : 0 ≤ b) (hc : 0 ≤ c) (h : posNum [a, b, c] ≤ 2) : (0 : Int) ∈ [a, b, c] := by
  simp only [List.mem_cons, List.not_mem_nil, or_false]
  by_cases h1 : 0 < a
  · by_cases h2 : 0 < b
    · by_cases h3 : 0 < c
      · exfalso
        unfold posNum at h
        simp [h1, h2, h3] at h
      · omega
    · omega
  · omega
theorem tri_end {z : List Int} (hl : z.length = 3) (hb : ∀ x ∈ z, 0 ≤ x) {lat n : Nat} (hlat : latest z = (lat : Int)) (hn : n ≤ lat) (hg : ¬ Goes z lat n) : ∃ k, n = k + 1 ∧ (0 : Int) ∈ made (run1 z k).ring := by
  have hlv : (lat : Int) = if topOf z - lowOf z > 1 then topOf z - lowOf z else 1 := by rw [← hlat]; unfold latest; rw [if_pos hl]
  have h1 : 1 ≤ (lat : Int) ∧ topOf z - lowOf z ≤ lat := by rw [hlv]; split <;> omega
  have h0 : n ≠ 0 := fun e => hg ⟨by omega, .inl e⟩
  obtain ⟨k, rfl⟩ : ∃ k, n = k + 1 := ⟨n - 1, by omega⟩
  refine ⟨k, rfl, ?_⟩
  rw [← next_zero, ← run1_next]
  obtain ⟨⟨a, b, c, he, ha, hb', hc, hs⟩, h3⟩ := tri_run hl hb k
  rcases h3 with h3 | h3
  · exact h3
  · by_cases hp : posNum (run1 z (k + 1)).ring ≤ 2
    · rw [he] at hp ⊢
      exact posNum3 ha hb' hc hp
    · have hl1 : ¬ (k + 1 < lat) := fun q => hg ⟨q, .inr (by rw [hl]; omega)⟩
      rw [he] at h3 ⊢
      have ka := h3 a (.head _)
      have kb := h3 b (.tail _ (.head _))
      have kc := h3 c (.tail _ (.tail _ (.head _)))
      simp only [List.mem_cons, List.not_mem_nil, or_false]
      omega
theorem tri_two {r : List Int} (h : Tri r) (h0 : (0 : Int) ∈ r) : r = [0, (gz r : Int), (gz r : Int)] ∨ r = [(gz r : Int), (gz r : Int), 0] ∨ r = [(gz r : Int), 0, (gz r : Int)] := by
  obtain ⟨a, b, c, rfl, h1, h2, h3, h4⟩ := h
  simp only [List.mem_cons, List.not_mem_nil, or_false] at h0
  rw [gz3]
  rcases h0 with e | e | e
  · left
    subst e
    obtain rfl : b = c := by omega
    have e : ((Int.gcd (0 - b) (b - b) : Nat) : Int) = b := by rw [Int.sub_self, Int.gcd_zero_right]; omega
    rw [e]
  · right; right
    subst e
    obtain rfl : a = c := by omega
    have e : ((Int.gcd (a - 0) (0 - a) : Nat) : Int) = a := by
      have : Int.gcd (a - 0) (0 - a) = Int.gcd (a - 0) 0 := gcd_same (fun d p q => ⟨p, Int.dvd_zero _⟩) (fun d p q => ⟨p, comb (-1) 0 p q (by omega)⟩)
      rw [this, Int.gcd_zero_right]; omega
    rw [e]
  · right; left
    subst e
    obtain rfl : a = b := by omega
    have e : ((Int.gcd (a - a) (a - 0) : Nat) : Int) = a := by rw [Int.sub_self, Int.gcd_zero_left]; omega
    rw [e]
theorem undiv3 (a b c d : Int) : undiv [a, b, c] d 3 = [] ↔ d ∣ b - a ∧ d ∣ c - a := by
  unfold undiv
  simp only [List.filter_eq_nil_iff, List.take, List.getD_cons_zero]
  constructor
  · intro h
    have hb := h b (.tail _ (.head _))
    have hc := h c (.tail _ (.tail _ (.head _)))
    simp only [decide_eq_true_eq, ne_eq, Classical.not_not] at hb hc
    exact ⟨Int.dvd_of_fmod_eq_zero hb, Int.dvd_of_fmod_eq_zero hc⟩
  · rintro ⟨hb, hc⟩ x hx
    simp only [decide_eq_true_eq, ne_eq, Classical.not_not]
    refine Int.fmod_eq_zero_of_dvd ?_
    simp only [List.mem_cons, List.not_mem_nil, or_false] at hx
    rcases hx with rfl | rfl | rfl
    · rw [Int.sub_self]; exact Int.dvd_zero _
    · exact hb
    · exact hc
theorem dvd_le {g : Nat} {x sp : Int} (hx : x ≠ 0) (hd : (g : Int) ∣ x) (h1 : x ≤ sp) (h2 : -x ≤ sp) : (g : Int) ≤ sp := by
  have := Nat.le_of_dvd (by omega) (Int.natAbs_dvd_natAbs.mpr hd)
  omega
theorem dall3 {z : List Int} (hl : z.length = 3) (hb : ∀ x ∈ z, 0 ≤ x) : dall z = (gz z : Int) := by
  have hlt := low_top hb
  obtain ⟨a, b, c, rfl⟩ := three hl
  have hs : ∀ x y : Int, x ∈ [a, b, c] → y ∈ [a, b, c] → x - y ≤ topOf [a, b, c] - lowOf [a, b, c] := fun x y hx hy => hlt x hx y hy
  have s1 := hs a b (by simp) (by simp)
  have s2 := hs b a (by simp) (by simp)
  have s3 := hs b c (by simp) (by simp)
  have s4 := hs c b (by simp) (by simp)
  have htop := topOf_mem (r := [a, b, c]) (by simp) hb
  have hlow := lowOf_mem (r := [a, b, c]) (by simp)
  generalize hsp : topOf [a, b, c] - lowOf [a, b, c] = sp at *
  have g1 := Int.gcd_dvd_left (a - b) (b - c)
  have g2 := Int.gcd_dvd_right (a - b) (b - c)
  rw [gz3]
  unfold dall
  rw [hsp]
  symm
  refine topOf_eq ?_ ?_ ?_
  · intro x hx
    rcases List.mem_cons.mp hx with rfl | hx
    · decide
    · exact divs_pos x hx
  · by_cases h0 : Int.gcd (a - b) (b - c) = 0
    · rw [h0]; exact .head _
    · refine .tail _ ?_
      generalize hg : Int.gcd (a - b) (b - c) = g at *
      have hle : (g : Int) ≤ sp := by
        by_cases e : a - b = 0
        · exact dvd_le (fun e2 => h0 (by rw [← hg]; exact Int.gcd_eq_zero_iff.mpr ⟨e, e2⟩)) g2 s3 (by rw [Int.neg_sub]; exact s4)
        · exact dvd_le e g1 s1 (by rw [Int.neg_sub]; exact s2)
      unfold divs
      refine List.mem_map.mpr ⟨g - 1, List.mem_filter.mpr ⟨List.mem_range.mpr (by omega), ?_⟩, by omega⟩
      rw [decide_eq_true_eq]
      show undiv [a, b, c] (1 + ((g - 1 : Nat) : Int)) 3 = []
      rw [undiv3, show (1 + ((g - 1 : Nat) : Int)) = (g : Int) by omega]
      exact ⟨comb (-1) 0 g1 g2 (by omega), comb (-1) (-1) g1 g2 (by omega)⟩
  · intro x hx
    rcases List.mem_cons.mp hx with rfl | hx
    · omega
    · obtain ⟨k, hk, rfl⟩ := List.mem_map.mp hx
      obtain ⟨hk1, hk2⟩ := List.mem_filter.mp hk
      have hk1 := List.mem_range.mp hk1
      rw [decide_eq_true_eq] at hk2
      have hk2 := (undiv3 a b c _).mp hk2
      have hdg := Int.dvd_coe_gcd (a := a - b) (b := b - c) (comb (-1) 0 hk2.1 hk2.2 (by omega)) (comb 1 (-1) hk2.1 hk2.2 (by omega))
      by_cases h0 : Int.gcd (a - b) (b - c) = 0
      · exfalso
        obtain ⟨e1, e2⟩ := Int.gcd_eq_zero_iff.mp h0
        obtain rfl : a = b := Int.eq_of_sub_eq_zero e1
        obtain rfl : a = c := Int.eq_of_sub_eq_zero e2
        simp only [List.mem_cons, List.not_mem_nil, or_false, or_self] at htop hlow
        rw [htop, hlow, Int.sub_self] at hsp
        subst hsp
        exact absurd hk1 (Nat.not_lt_zero _)
      · exact Int.le_of_dvd (by omega) hdg
theorem wds_made (u : Int) (r : List Int) : wds u r = (made r).map fun d => (word (u * d).natAbs).toArray := by
  unfold wds
  rw [← words_eq u r (Nat.le_refl _)]
  unfold made
  rw [List.map_map]
  refine List.map_congr_left fun j hj => ?_
  have hj := List.mem_range.mp hj
  simp [hj, Function.comp]
/-- three numbers: the last turn's words -/
theorem law3 {z : List Int} (hl : z.length = 3) (hb : ∀ x ∈ z, 0 ≤ x ∧ x < 32) {u : Int} (hu : 0 ≤ u ∧ u ≤ 4096) {lat n : Nat} (hlat : latest z = (lat : Int)) (hn : n ≤ lat) (hg : ¬ Goes z lat n) :
    ∃ x : Int, 0 ≤ x ∧ x < 1048576 ∧ (u * dall z).fdiv (2 ^ halvedAt z n) = x ∧
      (wordsAt u z n = [#[], (word x.natAbs).toArray, (word x.natAbs).toArray] ∨ wordsAt u z n = [(word x.natAbs).toArray, (word x.natAbs).toArray, #[]] ∨ wordsAt u z n = [(word x.natAbs).toArray, #[], (word x.natAbs).toArray]) := by
  have hb0 : ∀ x ∈ z, 0 ≤ x := fun x hx => (hb x hx).1
  obtain ⟨k, rfl, h0⟩ := tri_end hl hb0 hlat hn hg
  have hr := (run1_luc (z := z) (by omega) k).1
  rw [hl] at hr
  obtain ⟨a, b, c, he⟩ := three hr
  have hm : gz (made (run1 z k).ring) = gz (run1 z k).ring := by rw [he]; exact gz_made a b c
  have h2 := tri_two (tri_made hr) h0
  rw [hm] at h2
  have hrun := gz_run hl k
  have hd := dall3 hl hb0
  have hgb : ((gz (run1 z k).ring : Nat) : Int) < 32 := by
    have hmi := made_in (run1_in (B := 32) hb (by decide) k) (by decide)
    rcases h2 with e | e | e <;> rw [e] at hmi <;> exact (hmi _ (by simp)).2
  generalize gz (run1 z k).ring = g at *
  have hw0 : (word (u * 0).natAbs).toArray = #[] := by rw [Int.mul_zero]; simp [word_zero]
  refine ⟨u * g, Int.mul_nonneg hu.1 (by omega), ?_, ?_, ?_⟩
  · have := mul_in hu (show -(32 : Int) < (g : Int) ∧ (g : Int) < 32 by omega)
    omega
  · show (u * dall z).fdiv (2 ^ (run1 z k).whole) = _
    rw [hd, ← hrun, Int.natCast_mul, ← Int.mul_assoc]
    have hp : (((2 ^ (run1 z k).whole : Nat)) : Int) = (2 : Int) ^ (run1 z k).whole := by simp
    rw [hp]
    have hpos : (0 : Int) < 2 ^ (run1 z k).whole := Int.pow_pos (by decide)
    rw [Int.fdiv_eq_ediv_of_nonneg _ (by omega), Int.mul_ediv_cancel _ (by omega)]
  · show wds u (run1 z k).ring = _ ∨ wds u (run1 z k).ring = _ ∨ wds u (run1 z k).ring = _
    rw [wds_made]
    rcases h2 with e | e | e
    · left; rw [e]; simp only [List.map_cons, List.map_nil, hw0]
    · right; left; rw [e]; simp only [List.map_cons, List.map_nil, hw0]
    · right; right; rw [e]; simp only [List.map_cons, List.map_nil, hw0]
end Mine
namespace Mine
theorem fstOdd_even : ∀ {md : List Int}, (∀ x ∈ md, x.fmod 2 ≠ 1) → fstOdd md = md.length
  | [], _ => rfl
  | x :: r, h => by
    rw [fstOdd, if_neg (h x (.head _)), fstOdd_even fun y hy => h y (.tail _ hy)]; rfl
theorem tsum4 (f : Int → Int) (p : Int) : tsum 4 f p = f p + f (p - 4) := by
  simp [tsum, usum]
theorem luc_four {st r : List Int} (h : Luc st r 3) (hl : r.length = 4) : fstOdd (made r) = r.length := by
  obtain ⟨h1, h2, h3⟩ := h.step
  rw [← made_len r]
  refine fstOdd_even fun x hx => ?_
  obtain ⟨i, hi, rfl⟩ := mem_at hx
  have a := h3 i
  rw [tsum4] at a
  have b := at_per (r := st) (i : Int) (-1)
  rw [h2, made_len, hl] at b
  rw [show ((i : Int) + ((4 : Nat) : Int) * -1) = (i : Int) - 4 by omega] at b
  rw [fmod2]
  omega
theorem four_run {z : List Int} (hl : z.length = 4) (hb : ∀ x ∈ z, 0 ≤ x) : ∀ n : Nat, n ≤ 4 * (run1 z n).whole + (run1 z n).since ∧ (run1 z n).since ≤ 3 ∧ ∃ K : Int, 0 ≤ K ∧ K * 2 ^ (run1 z n).whole ≤ topOf z ∧ ∀ x ∈ (run1 z n).ring, 0 ≤ x ∧ x < K + 1
  | 0 => ⟨Nat.zero_le _, Nat.zero_le _, topOf z, topOf_nonneg hb, by show topOf z * 2 ^ 0 ≤ _; omega, fun x hx => by have h1 := hb x hx; have h2 := le_topOf (r := z) x hx; omega⟩
  | n + 1 => by
    obtain ⟨h1, h2, K, hK0, hK1, hK2⟩ := four_run hl hb n
    obtain ⟨hr1, hr2, hluc⟩ := run1_luc (z := z) (by omega) n
    have hmi := made_in hK2 (by omega)
    by_cases hw : fstOdd (made (run1 z n).ring) = (run1 z n).ring.length
    · rw [run1_yes hw]
      dsimp only
      refine ⟨by omega, by omega, K / 2, by omega, ?_, ?_⟩
      · refine Int.le_trans ?_ hK1
        rw [Int.pow_succ, Int.mul_comm (2 ^ _) 2, ← Int.mul_assoc]
        exact Int.mul_le_mul_of_nonneg_right (by omega) (Int.le_of_lt (Int.pow_pos (by decide)))
      · intro x hx
        obtain ⟨y, hy, rfl⟩ := List.mem_map.mp hx
        have := hmi y hy
        rw [fdiv2]
        omega
    · rw [run1_no hw]
      dsimp only
      refine ⟨by omega, ?_, K, hK0, hK1, hmi⟩
      by_cases h3 : (run1 z n).since = 3
      · rw [h3] at hluc
        exact absurd (luc_four hluc (by omega)) hw
      · omega
theorem lats_le {M : Int} {k : Nat} (hk : k < 6) (h : (2 : Int) ^ k ≤ M) : 4 * (k : Int) + 4 ≤ topOf (1 :: lats M 6) := by
  refine le_topOf _ (.tail _ ?_)
  unfold lats
  exact List.mem_map.mpr ⟨k, List.mem_filter.mpr ⟨List.mem_range.mpr hk, by rw [decide_eq_true_eq]; exact h⟩, rfl⟩
theorem posNum0 {r : List Int} (hb : ∀ x ∈ r, 0 ≤ x) (h : posNum r ≤ 0) : ∀ x ∈ r, x = 0 := by
  unfold posNum at h
  have h := List.filter_eq_nil_iff.mp (List.length_eq_zero_iff.mp (Nat.le_zero.mp h))
  intro x hx
  have := h x hx
  rw [decide_eq_true_eq] at this
  have := hb x hx
  omega
theorem four_end {z : List Int} (hl : z.length = 4) (hb : ∀ x ∈ z, 0 ≤ x ∧ x < 64) {lat n : Nat} (hlat : latest z = (lat : Int)) (hn : n ≤ lat) (hg : ¬ Goes z lat n) : ∃ k, n = k + 1 ∧ ∀ x ∈ made (run1 z k).ring, x = 0 := by
  have hb0 : ∀ x ∈ z, 0 ≤ x := fun x hx => (hb x hx).1
  have hlv : (lat : Int) = topOf (1 :: lats (topOf z) 6) := by rw [← hlat]; unfold latest; rw [if_neg (by omega)]
  have hl1 : (1 : Int) ≤ lat := by rw [hlv]; exact le_topOf 1 (.head _)
  have h0 : n ≠ 0 := fun e => hg ⟨by omega, .inl e⟩
  obtain ⟨k, rfl⟩ : ∃ k, n = k + 1 := ⟨n - 1, by omega⟩
  refine ⟨k, rfl, ?_⟩
  have hzero : ∀ x ∈ (run1 z (k + 1)).ring, x = 0 := by
    obtain ⟨h1, h2, K, hK0, hK1, hK2⟩ := four_run hl hb0 (k + 1)
    by_cases hp : posNum (run1 z (k + 1)).ring ≤ 0
    · exact posNum0 (fun x hx => (hK2 x hx).1) hp
    · have hlk : ¬ (k + 1 < lat) := fun q => hg ⟨q, .inr (by rw [hl]; omega)⟩
      generalize (run1 z (k + 1)).whole = w at *
      have hM : topOf z < 2 ^ w := by
        by_cases hw : (2 : Int) ^ w ≤ topOf z
        · exfalso
          have h64 : topOf z < 64 := (hb _ (topOf_mem (by intro e; subst e; cases hl) hb0)).2
          by_cases hw6 : w < 6
          · have := lats_le hw6 hw
            omega
          · have h7 : (2 : Nat) ^ 6 ≤ 2 ^ w := Nat.pow_le_pow_right (by decide) (by omega)
            have h8 : (((2 : Nat) ^ w : Nat) : Int) = (2 : Int) ^ w := by simp
            omega
        · omega
      have hKz : K = 0 := by
        by_cases hKp : K = 0
        · exact hKp
        · exfalso
          have : (1 : Int) * 2 ^ w ≤ K * 2 ^ w := Int.mul_le_mul_of_nonneg_right (by omega) (Int.le_of_lt (Int.pow_pos (by decide)))
          omega
      subst hKz
      intro x hx
      have := hK2 x hx
      omega
  rw [run1_next] at hzero
  rcases nextRing_or (run1 z k).ring with e | ⟨e, he⟩
  · rw [← e]; exact hzero
  · intro x hx
    have h1 := made_nonneg _ x hx
    have h2 := he x hx
    have h3 := hzero (x.fdiv 2) (by rw [e]; exact List.mem_map.mpr ⟨x, hx, rfl⟩)
    rw [fdiv2] at h3
    rw [fmod2] at h2
    omega
/-- four numbers: the last turn's words -/
theorem law4 {z : List Int} (hl : z.length = 4) (hb : ∀ x ∈ z, 0 ≤ x ∧ x < 64) (u : Int) {lat n : Nat} (hlat : latest z = (lat : Int)) (hn : n ≤ lat) (hg : ¬ Goes z lat n) :
    wordsAt u z n = [#[], #[], #[], #[]] := by
  obtain ⟨k, rfl, h0⟩ := four_end hl hb hlat hn hg
  have hr := (run1_luc (z := z) (by omega) k).1
  show wds u (run1 z k).ring = _
  rw [wds_made]
  have hml : (made (run1 z k).ring).length = 4 := by rw [made_len]; omega
  generalize made (run1 z k).ring = md at *
  match md, hml with
  | [a, b, c, d], _ =>
    obtain rfl := h0 a (by simp)
    obtain rfl := h0 b (by simp)
    obtain rfl := h0 c (by simp)
    obtain rfl := h0 d (by simp)
    simp [word_zero]
end Mine
namespace Mine
open PySem.Spec PySem.SeqAt
theorem BytesAre.det : ∀ {vs : List Value} {bs cs : List (Array UInt8)}, BytesAre vs bs → BytesAre vs cs → bs = cs
  | _, _, _, .nil, .nil => rfl
  | _, _, _, .cons g, .cons h => by rw [g.det h]
theorem whole_le (z : List Int) : ∀ n, (run1 z n).whole ≤ n
  | 0 => Nat.le_refl _
  | n + 1 => by
    have := whole_le z n
    rw [run1, step1]
    dsimp only
    split <;> omega
theorem halvedAt_le (z : List Int) : ∀ n, halvedAt z n ≤ n
  | 0 => Nat.le_refl _
  | n + 1 => Nat.le_succ_of_le (whole_le z n)
section
variable {prog : Program} {w : World} {A : Around} {E : Value → Shared → Prop} {s : Shared}
theorem bytes_at {l m : Addr} {vs us : List Value} {bs cs : List (Array UInt8)} (hl : s.heap.IsList l vs.toArray) (hm : s.heap.IsList m us.toArray) (hb : BytesAre vs bs) (hc : BytesAre us cs) (hu : A.units < cLine) : EqAt A s (.ref l) (.ref m) (decide (bs = cs)) := by
  by_cases h : l = m
  · subst h
    have e : vs = us := by
      obtain ⟨o, h1, _, _, h2⟩ := hl
      obtain ⟨o', h3, _, _, h4⟩ := hm
      rw [h1] at h3
      cases h3
      rw [h2] at h4
      injection h4 with h4
      simpa using h4
    subst e
    rw [hb.det hc, decide_eq_true rfl]
    exact EqAt.same _
  · exact EqAt.of_refs h (rc_bytes hl hm hb hc hu)
theorem in_three {l W a b c : Addr} {vw va vb vc : List Value} {bw ba bb bc : List (Array UInt8)} {Q : Value → Shared → Prop} (hl : s.heap.IsList l #[.ref a, .ref b, .ref c]) (hW : s.heap.IsList W vw.toArray) (ha : s.heap.IsList a va.toArray) (hb : s.heap.IsList b vb.toArray) (hc : s.heap.IsList c vc.toArray)
    (gW : BytesAre vw bw) (ga : BytesAre va ba) (gb : BytesAre vb bb) (gc : BytesAre vc bc) (hu : A.in1.units < cLine) (hor : bw = ba ∨ bw = bb ∨ bw = bc) (h : Q (.bool true) s) : wpAny (model prog w) A (compareOp .In (.ref W) (.ref l)) Q E s := by
  refine in_listAt (fun y => match y with | .ref r => if r = a then decide (ba = bw) else if r = b then decide (bb = bw) else decide (bc = bw) | _ => false) hl (fun y hy => ?_) ?_
  · simp only [Array.mem_def, List.mem_cons, List.not_mem_nil, or_false] at hy
    have key : ∀ r : Addr, (r = a ∨ r = b ∨ r = c) → EqAt A.in1 s (.ref r) (.ref W) (if r = a then decide (ba = bw) else if r = b then decide (bb = bw) else decide (bc = bw)) := by
      intro r hr
      split
      · next e => subst e; exact bytes_at ha hW ga gW hu
      · split
        · next e => subst e; exact bytes_at hb hW gb gW hu
        · obtain rfl : r = c := by
            rcases hr with e | e | e
            · contradiction
            · contradiction
            · exact e
          exact bytes_at hc hW gc gW hu
    rcases hy with rfl | rfl | rfl
    · exact key _ (.inl rfl)
    · exact key _ (.inr (.inl rfl))
    · exact key _ (.inr (.inr rfl))
  · have e : (#[Value.ref a, Value.ref b, Value.ref c] : Array Value).any (fun y => match y with | .ref r => if r = a then decide (ba = bw) else if r = b then decide (bb = bw) else decide (bc = bw) | _ => false) = true := by
      rw [← Array.any_toList]
      simp only [List.any_cons, List.any_nil, Bool.or_false, if_true]
      by_cases e1 : ba = bw
      · simp [e1]
      · have h2 : b ≠ a ∨ bb = ba := by
          by_cases q : b = a
          · right
            subst q
            obtain ⟨o, h1, _, _, h2⟩ := hb
            obtain ⟨o', h3, _, _, h4⟩ := ha
            rw [h1] at h3
            cases h3
            rw [h2] at h4
            injection h4 with h4
            have : vb = va := by simpa using h4
            subst this
            exact gb.det ga
          · exact .inl q
        have h3 : c ≠ a ∨ bc = ba := by
          by_cases q : c = a
          · right
            subst q
            obtain ⟨o, h1, _, _, h2⟩ := hc
            obtain ⟨o', h3, _, _, h4⟩ := ha
            rw [h1] at h3
            cases h3
            rw [h2] at h4
            injection h4 with h4
            have : vc = va := by simpa using h4
            subst this
            exact gc.det ga
          · exact .inl q
        have h4 : c ≠ b ∨ bc = bb := by
          by_cases q : c = b
          · right
            subst q
            obtain ⟨o, h1, _, _, h2⟩ := hc
            obtain ⟨o', h3, _, _, h4⟩ := hb
            rw [h1] at h3
            cases h3
            rw [h2] at h4
            injection h4 with h4
            have : vc = vb := by simpa using h4
            subst this
            exact gc.det gb
          · exact .inl q
        by_cases e2 : bb = bw
        · have hn : b ≠ a := by
            rcases h2 with h2 | h2
            · exact h2
            · exact fun _ => e1 (h2.symm.trans e2)
          simp [e2, hn]
        · have e3 : bc = bw := by
            rcases hor with q | q | q
            · exact absurd q.symm e1
            · exact absurd q.symm e2
            · exact q.symm
          have hn : c ≠ a := by
            rcases h3 with h3 | h3
            · exact h3
            · exact fun _ => e1 (h3.symm.trans e3)
          have hn2 : c ≠ b := by
            rcases h4 with h4 | h4
            · exact h4
            · exact fun _ => e2 (h4.symm.trans e3)
          simp [e3, hn, hn2]
    rw [e]; exact h
end
end Mine
namespace Mine
theorem ldL {M : Model} {A : Around} {E : Value → Shared → Prop} {s : Shared} {h₀ : Heap} {L a : Addr} {m : Str → Option Value} {name : Str} {scope : Scope} {cd : Value} {x : Str} {pos : Pos} {v : Value} {Q : Value → Shared → Prop} (F : Fr h₀ L s.heap m) (hv : m x = some v) (h : Q v s)
    (hk : scope.kind = .function := by rfl) (hl : (envOfC name scope L a cd).kindOf x = some .local := by rfl)
    (hd : (x == ("__debug__" : Str)) = false := by decide) :
    wpAny M A (eval (.Name x pos) (envOfC name scope L a cd)) Q E s := wpAny_Name (wpAny_loadName_local hk hl F.ns hv h) hd
local macro_rules | `(tactic| walk_at "CompEnd") => `(tactic| (k_here; k_dflt (first
  | (refine LCg.CompEnd.intro (by assumption) (by assumption) _ (fun p hp => hp) (by with_unfolding_all assumption) (by lcg_src) ?_)
  | (refine LCg.CompEnd.intro (by assumption) (by assumption) _ (fun p hp => List.Mem.tail _ hp) (by with_unfolding_all assumption) (by lcg_src) ?_))))
local macro_rules | `(tactic| walk_at "eval ListComp") => `(tactic| (k_here; (with_reducible show wpAny _ _ (eval (Expr.ListComp _ [⟨Expr.Name _ _, _, [], _⟩] _ _) _) _ _ _); k_dflt (refine LCg.ListComp_U (F₀ := by k_asm) (by with_unfolding_all rfl) (by decide) (by rfl) (by decide) (by rfl) ?_)))
local macro_rules | `(tactic| walk_at "exec Assign cons ListComp") => `(tactic| (k_here; (with_reducible show wpAny _ _ (exec (Stmt.Assign [Expr.Name _ _] (Expr.ListComp _ [⟨Expr.Name _ _, _, _, _⟩] _ _) _) _) _ _ _); k_dflt (refine LCg.Assign_ListComp_U (F₀ := by k_asm) (by rfl) (by with_unfolding_all rfl) (by with_unfolding_all rfl) (by decide) (by rfl) (by decide) (by rfl) (by rfl) (by rfl) ?_)))
local macro_rules | `(tactic| walk_at "exec Assign cons ListComp") => `(tactic| (k_here; (with_reducible show wpAny _ _ (exec (Stmt.Assign [Expr.Name _ _] (Expr.ListComp _ [⟨Expr.Tuple _ _ _, _, _, _⟩] _ _) _) _) _ _ _); k_dflt (refine Assign_ListComp_E (F₀ := by k_asm) (by rfl) (by with_unfolding_all rfl) (by with_unfolding_all rfl) (by decide) (by rfl) (by decide) (by rfl) (by rfl) (by decide) (by rfl) (by rfl) ?_)))
local macro_rules | `(tactic| walk_at $k:str) => if ["CompSrc", "call ref", "call type:enumerate cons nil", "subscriptTail Name Slice ref ref", "subscriptTail List cons Slice ref ref", "call builtin:chr cons nil", "call builtin:max", "call builtin:min", "pyIter ref", "compareOp Eq ref ref", "CompSrcT", "binaryOp Add ref ref", "call builtin:len cons nil", "compareOp NotIn", "exec While BoolOp cons nil", "exec While", "compareOp NotEq", "compareOp NotEq ref ref", "compareOp NotEq str str", "call builtin:str.join cons nil", "binaryOp Add str str", "call builtin:str.split cons nil", "call type:str cons nil", "call type:str", "binaryOp Mult ref int", "compareOp In", "compareOp In ref ref"].contains k.getString then `(tactic| (refine Hold.intro ?_)) else Lean.Macro.throwUnsupported
local macro_rules | `(tactic| walk_at "subscriptTail BinOp Name Add List Slice ref ref") => `(tactic| (k_dflt refine (kba_turn (value' := PySem.Expr.Name (PySem.Str.ofString "_") ⟨0, 0, 0, 0⟩) (fun _ => rfl) ?_)))
local macro_rules | `(tactic| walk_at "subscriptTail ListComp Call cons Slice ref ref") => `(tactic| (k_dflt refine (kba_turn (value' := PySem.Expr.Name (PySem.Str.ofString "_") ⟨0, 0, 0, 0⟩) (fun _ => rfl) ?_)))
local macro_rules | `(tactic| walk_at "exec For Name Call cons nil") => `(tactic| (k_here; k_dflt (refine For_in ?_)))
local macro_rules | `(tactic| walk_at "eval Name") => `(tactic| (k_here; k_dflt (refine' ldL ?k1 ?k2 ?_; (case k1 => k_asm); (case k2 => with_unfolding_all assumption); k_whole)))
local macro_rules | `(tactic| walk_at "eval ListComp") => `(tactic| (k_here; (with_reducible show wpAny _ _ (eval (Expr.ListComp _ [⟨Expr.Name _ _, _, [_], _⟩] _ _) _) _ _ _); k_dflt (refine LCt.ListComp_T (F₀ := by k_asm) (by with_unfolding_all rfl) (by decide) (by rfl) (by decide) (by rfl) ?_)))
local macro_rules | `(tactic| walk_at "subscriptTail Name Name ref int") => `(tactic| (k_here; k_dflt (refine' item_cur _ ?k1 ?k2 ?k3 ?k4 ?k5 ?_; (case k1 => k_asm); (case k2 => k_mem); (case k3 => assumption); (case k4 => omega); (case k5 => omega); k_whole; intro t')))
theorem off1_ne {D a : Addr} {o : Obj} {l : List (Addr × Obj)} (h : LCg.Off1 D l) (hm : (a, o) ∈ l) : @Ne Nat a D := by
  induction l with
  | nil => cases hm
  | cons p r ih =>
    rcases List.mem_cons.mp hm with e | hm
    · cases e; exact h.1
    · exact ih h.2 hm
theorem off1_en {D a : Addr} {o : Obj} {l : List (Addr × Obj)} (h : LCg.Off1 D l) (hm : (a, o) ∈ l) : @Ne Nat D a := (off1_ne h hm).symm
local macro_rules | `(tactic| walk_at "FinE") => `(tactic| ((unfold LCg.FinE); intro D' h' tk' F' N' o1'; (try simp only [List.nil_append, List.cons_append] at N'); (try dsimp only)))
local macro_rules | `(tactic| walk_at "FinA") => `(tactic| ((unfold LCg.FinA); intro D' h' tk' F' N' o1'; (try simp only [List.nil_append, List.cons_append] at N'); (try dsimp only)))
local macro_rules | `(tactic| k_ne) => `(tactic| (refine neN ?_; (try dsimp only); first | exact Off.ne (by assumption) | exact Off.en (by assumption) | exact off1_ne (by assumption) (by k_mem) | exact off1_en (by assumption) (by k_mem) | omega))
local macro_rules | `(tactic| walk_at "ForEnd") => `(tactic| ((with_reducible show ForEnd _ _ _ _ _ _ _ _ _ (Flow.ret _) _); dsimp only [ForEnd]))
theorem latest_in {zs : List Int} (hl : zs.length = 3 ∨ zs.length = 4) (hb : ∀ x ∈ zs, 0 ≤ x ∧ x < 32 * (zs.length : Int) - 64) : ∃ lat : Nat, latest zs = (lat : Int) ∧ 1 ≤ lat ∧ lat ≤ 31 := by
  have hne : zs ≠ [] := by intro e; subst e; simp at hl
  have hM := hb _ (topOf_mem hne fun x hx => (hb x hx).1)
  have hm := hb _ (lowOf_mem hne)
  rcases hl with hl | hl
  · rw [hl] at hM hm
    refine ⟨(latest zs).toNat, ?_, ?_, ?_⟩ <;> unfold latest <;> rw [if_pos hl] <;> split <;> omega
  · have h1 : (1 : Int) ≤ topOf (1 :: lats (topOf zs) 6) := le_topOf 1 (.head _)
    have h2 : topOf (1 :: lats (topOf zs) 6) ≤ 24 := by
      have := topOf_mem (r := 1 :: lats (topOf zs) 6) (by simp) (fun x hx => by
        rcases List.mem_cons.mp hx with rfl | hx
        · decide
        · exact lats_pos x hx)
      rcases List.mem_cons.mp this with e | e
      · rw [e]; decide
      · obtain ⟨k, hk, e⟩ := List.mem_map.mp e
        have := List.mem_range.mp (List.mem_filter.mp hk).1
        omega
    refine ⟨(latest zs).toNat, ?_, ?_, ?_⟩ <;> unfold latest <;> rw [if_neg (by omega)] <;> omega
theorem posNum_le (r : List Int) : posNum r ≤ r.length := List.length_filter_le _ _
theorem worth_div {u d : Int} (hu : 0 < u) : (((u * d).natAbs : Nat) : Int).fdiv u = ab d := by
  rw [Int.fdiv_eq_ediv_of_nonneg _ (by omega), Int.natAbs_mul, ab_natAbs]
  have e : ((u.natAbs * d.natAbs : Nat) : Int) = u * (d.natAbs : Int) := by
    rw [Int.natCast_mul]; congr 1; omega
  rw [e, Int.mul_ediv_cancel_left _ (by omega)]
theorem BytesAre.at' {vs : List Value} {bs : List (Array UInt8)} (h : BytesAre vs bs) (j : Nat) (v : Value) (hv : vs[j]? = some v) : ∃ t, v = .bytes (bs.getD j #[]) t ∧ j < bs.length := by
  obtain ⟨hj, rfl⟩ := List.getElem?_eq_some_iff.mp hv
  obtain ⟨t, ht⟩ := h.get j hj
  exact ⟨t, ht, by rw [← h.length]; exact hj⟩
theorem wds_get {u : Int} {r : List Int} {j : Nat} (h : j < r.length) : (wds u r).getD j #[] = (word (u * dif r j).natAbs).toArray := by
  unfold wds; simp [h]
theorem wds_len (u : Int) (r : List Int) : (wds u r).length = r.length := by unfold wds; simp
local macro_rules | `(tactic| walk_at "exec Assign cons ListComp") => `(tactic| (k_here; (with_reducible show wpAny _ _ (exec (Stmt.Assign [Expr.Name ("ring" : Str) _] (Expr.ListComp _ _ _ _) _) _) _ _ _); k_dflt (refine wpAny_Assign_Name ?_)))
local macro_rules | `(tactic| walk_at "subscriptTail Name BinOp ref int") => `(tactic| (k_here; k_dflt (refine' item_prev _ ?k1 ?k2 ?k3 ?k4 ?k5 ?_; (case k1 => k_asm); (case k2 => k_mem); (case k3 => assumption); (case k4 => omega); (case k5 => omega); k_whole; intro t')))
local macro_rules | `(tactic| walk_at "binaryOp Mult str int") => `(tactic| (k_here; k_dflt (refine mul_S (by omega) (by omega) ?_); intro t' k'))
local macro_rules | `(tactic| walk_at "exec If") => `(tactic| ((fail_if_success (rename IfMark => ifM')); (with_reducible show wpAny _ _ (exec (Stmt.If (Expr.Compare (Expr.Call (Expr.Name ("_law_told" : Str) _) _ _ _) _ _ _) _ _ _) _) _ _ _); refine Hold.intro ?_))
local macro_rules | `(tactic| walk_at "exec If") => `(tactic| ((fail_if_success (rename IfMark => ifM')); (with_reducible show wpAny _ _ (exec (Stmt.If (Expr.BoolOp _ _ _) _ _ _) _) _ _ _); refine Hold.intro ?_))
theorem ldN {M : Model} {A : Around} {E : Value → Shared → Prop} {s : Shared} {h₀ : Heap} {L a : Addr} {m : Str → Option Value} {name : Str} {scope : Scope} {cd : Value} {x : Str} {v : Value} {Q : Value → Shared → Prop} (F : Fr h₀ L s.heap m) (hv : m x = some v) (h : Q v s)
    (hk : scope.kind = .function := by rfl) (hl : (envOfC name scope L a cd).kindOf x = some .local := by rfl) :
    wpAny M A (loadName (envOfC name scope L a cd) x) Q E s := wpAny_loadName_local hk hl F.ns hv h
local macro_rules | `(tactic| walk_at "loadName") => `(tactic| (k_here; k_dflt (refine' ldN ?k1 ?k2 ?_; (case k1 => k_asm); (case k2 => with_unfolding_all assumption); k_whole)))
theorem len_at {prog : Program} {w : World} {A : Around} {E : Value → Shared → Prop} {s : Shared} {l : Addr} {items : Array Value} {n : Nat} {Q : Value → Shared → Prop} (hl : s.heap.IsList l items) (hn : items.size = n) (hfit : n < 100000)
    (h : Q (.int (n : Int) (s.toks + 1)) { s with toks := s.toks + 1 + 1 }) : wpAny (model prog w) A (call (.builtin "len") [.ref l]) Q E s :=
  PySem.Calls.call_len_list hl (by omega) (by rw [hn]; exact h)
theorem bd1 {q : List Nat} {k : Int} (h : q.length ≤ 512) (hk : 0 ≤ k ∧ k ≤ 1) : (q ++ List.replicate k.toNat 34).length ≤ 513 := by
  rw [List.length_append, List.length_replicate]; omega
theorem bd2 {q r : List Nat} (h : (q ++ r).length ≤ 513) : ([34] ++ q ++ r).length ≤ 514 := by
  rw [List.append_assoc, List.length_append]; exact Nat.add_le_add_left h 1
theorem big {a b : List Nat} {n : Nat} (h : b.length ≤ n) (h2 : Nat.ble (a.length + n) 16777216 = true) : a.length + b.length ≤ 16777216 := Nat.le_trans (Nat.add_le_add_left h _) (Nat.le_of_ble_eq_true h2)
theorem big2 {a b : List Nat} (h : (a ++ b).length ≤ 514) : a.length + b.length ≤ 16777216 := by
  rw [List.length_append] at h; omega
theorem S_fit {a b : List Nat} {n : Nat} (h : b.length ≤ n) (h2 : Nat.ble (a.length + n) 100000 = true) : (S (a ++ b)).length ≤ 100000 := by
  rw [S_len, List.length_append]; exact Nat.le_trans (Nat.add_le_add_left h _) (Nat.le_of_ble_eq_true h2)
theorem sz_fit {sz : Nat} (h : sz = 3 ∨ sz = 4) : sz + 1 ≤ 16777216 := by omega
theorem sz_fit2 {sz : Nat} (h : sz = 3 ∨ sz = 4) : sz + 1 ≤ 1000 := by omega
theorem f_fit {f sz : Nat} (hf : f ≤ sz) (h : sz = 3 ∨ sz = 4) : f + 1 ≤ 16777216 := by omega
theorem sum_fit {a f sz : Nat} (ha : a ≤ (f + 1) * 128) (hf : f ≤ sz) (h : sz = 3 ∨ sz = 4) : a + (f + 1) * 1 ≤ 16777216 := by omega
theorem glue_fit {g a f sz : Nat} (hg : g ≤ a + (f + 1)) (ha : a ≤ (f + 1) * 128) (hf : f ≤ sz) (h : sz = 3 ∨ sz = 4) : g + 2 ≤ 16777216 := by omega
theorem q_fit {q sz : Nat} (hq : q ≤ sz * 128) (h : sz = 3 ∨ sz = 4) : q ≤ 512 := by omega
set_option maxRecDepth 100000 in
set_option maxHeartbeats 8000000 in
theorem X1 : PySem.Challenge.rw_pm0003_01.Holds := hd (by
  k_go0
  (all_goals try k_fold)
  k_with_none
  rename List Int => scr
  rename IntsAre _ _ => hSI
  rename Heap.IsList _ _ _ => hSL
  rename ¬ ((63 : Nat) : Int) < _ => hSn
  (rename Obj.data _ = _ => d5; change _ = Data.cell (some _) at d5; revert d5)
  (rename Obj.data _ = _ => d4; change _ = Data.cell none at d4; revert d4)
  (rename Obj.data _ = _ => d3; change _ = Data.cell none at d3; revert d3)
  (rename Obj.data _ = _ => d2; change _ = Data.cell none at d2; revert d2)
  (rename Obj.data _ = _ => d1; change _ = Data.cell none at d1; revert d1)
  intro d1 d2 d3 d4 d5
  k_steps
  rename Fr _ _ _ _ => F0
  have hSz := hSI.length
  refine Hold.out (len_at (n := scr.length) (hSL.at fun o q => F0.keep _ o q) (by rw [List.size_toArray, hSz]) (by omega) ?_)
  have hm2 := Int.fmod_nonneg_of_pos (scr.length : Int) (b := 2) (by decide)
  have hm3 := Int.fmod_lt_of_pos (scr.length : Int) (b := 2) (by decide)
  k_steps
  k_dflt refine Hold.out (kba_turn (value' := PySem.Expr.Name (PySem.Str.ofString "_") ⟨0, 0, 0, 0⟩) (fun _ => rfl) ?_)
  have hI4 : ∀ t1 t2 t3 t4 : Tok, IntsAre [.int 1 t1, .int 13 t2, .int 31 t3, .int 60 t4] [1, 13, 31, 60] := fun _ _ _ _ => .cons _ _ (.cons _ _ (.cons _ _ (.cons _ _ .nil)))
  rename Fr _ _ _ _ => F1
  rename News _ _ _ _ => N1
  k_dflt (refine (kmk_slice_ints (s := ⟨_, _, _, _, _⟩) F1 N1 (isList_of N1 (by k_mem)) .none (.int _ _) (hI4 _ _ _ _) (kmk_upto (hI4 _ _ _ _) (by omega)) rfl ?_ (by with_unfolding_all rfl) (by intro _; with_unfolding_all rfl) (Nat.le_of_ble_eq_true rfl)))
  intro D1 ws1 h1 F2 N2 lt2 hI5 _ _
  k_lt lt2
  k_steps
  obtain ⟨sz, hN⟩ : ∃ sz : Nat, sz = 3 + scr.length % 2 := ⟨_, rfl⟩
  have hN2 : (3 : Int) + (scr.length : Int).fmod 2 = (sz : Int) := by rw [Int.fmod_eq_emod_of_nonneg _ (by decide)]; omega
  have hNc : sz = 3 ∨ sz = 4 := by omega
  clear hm2 hm3
  simp only [hN2] at *
  clear hN hN2
  have hl5 : ([1, 13, 31, 60] : List Int).take (sz : Int).toNat = ([1, 13, 31, 60] : List Int).take sz := rfl
  rw [hl5] at hI5
  have hz5 : (([1, 13, 31, 60] : List Int).take sz).length = sz := by rw [List.length_take]; simp; omega
  k_dflt refine Hold.out (call_enum (by assumption) (by assumption) (by k_mem) ?_)
  intro e it h'' hei he hi F' N' off he₀ hi₀ hLe hLi
  refine ⟨e, it, _, _, _, _, InRing (32 * (sz : Int) - 64), rfl, rfl, ?_, F', N', by k_mem, he, hi, hei, off, he₀, hi₀, hLe, hLi, InRing.nil, fun s₂ hs₂ => ⟨?_, ?_⟩⟩
  · rw [hI5.length, hz5, sizeLine_eq]; omega
  · obtain ⟨hp2, rfl⟩ := hs₂
    rintro i ys v t e oe it oi C oC D m₂ h tk E' hJ hv hC hmi hmv F N off ne
    obtain ⟨tv, rfl, hi5⟩ := IntsAre.at' hI5 i v (by simpa using hv)
    k_steps
    refine Hold.out (slice3_ints (s := ⟨_, _, _, _, _⟩) F N (hSL.at fun o q => F.keep _ o q) hSI (by omega) (.int _ _) .none (.int _ _) (by intro q; injection q with q; omega) ?_)
    intro D6 ws6 ks6 h6 hI6 F6 N6 lt6
    have hmod : 32 * (sz : Int) - 64 ≠ 0 := by omega
    k_steps
    exact hJ.snoc (by omega)
  · obtain ⟨hp2, rfl⟩ := hs₂
    rintro dr ⟨zs, hzs, hzl, hzb⟩
    rw [hI5.length, hz5] at hzl
    k_steps
    have hsgn := sign_in scr.sum
    refine Hold.out (chr_of_range hsgn.1 (by omega) ?_)
    have hsg : ((35 + scr.sum.fmod 127).fmod 128).toNat < 128 ∧ ((35 + scr.sum.fmod 127).fmod 128).toNat ≠ 34 := by omega
    generalize ((35 + scr.sum.fmod 127).fmod 128).toNat = sg at hsg ⊢
    have hun1 := Int.fmod_nonneg_of_pos scr.sum (b := 3840) (by decide)
    have hun2 := Int.fmod_lt_of_pos scr.sum (b := 3840) (by decide)
    have hzb7 : ∀ x ∈ zs, 0 ≤ x ∧ x < 128 := fun x hx => by have := hzb x hx; omega
    k_steps
    have hu0 : 257 ≤ 257 + scr.sum.fmod 3840 ∧ 257 + scr.sum.fmod 3840 ≤ 4096 := by omega
    generalize 257 + scr.sum.fmod 3840 = u at *
    clear hun1 hun2
    k_dflt refine Hold.out (latest_at1 (by k_asm) (by k_asm) (by k_asm) (by k_asm) (by k_asm) rfl (by k_mem) hzs (by omega) hzb7 (by decide) (by decide) ?_)
    intro tl hl7 tk7 F7 N7
    have hzc : zs.length = 3 ∨ zs.length = 4 := by omega
    obtain ⟨lat, hlat, hlat1, hlat2⟩ := latest_in hzc (by rw [hzl]; exact hzb)
    rw [hlat]
    k_steps
    rename News _ _ _ _ => NX
    rename Fr _ _ _ _ => FX
    rename Shared => s1
    obtain ⟨c0, hsub0, hJ0⟩ := JL1.of (zs := zs) (u := u) (n := 0) (k := lat) (lat := lat) FX NX (by k_mem) (by assumption) (by k_mem) (by exact rfl) (by k_mem) (by exact rfl) (by k_mem) (by exact rfl) (by k_mem) (by k_mem) (by k_mem) (by k_mem) (by k_mem)
      (by exact rfl) (by exact rfl) (by exact rfl) (by exact rfl) (by exact rfl) (by omega) rfl rfl rfl hzs hzs .nil hzs
    have kMark := kstMark
    refine Hold.out (While_law FX (fun p hp => NX p (hsub0 p hp)) hJ0 ?ask ?turn ?post)
    case post =>
      clear hJ0 hsub0 NX FX
      (repeat (rename News _ _ _ _ => NZ; clear NZ))
      (repeat (rename Fr _ _ _ _ => FZ; clear FZ))
      rintro n ⟨R, S', W, D0, vr, vs, vw, vd, cr, cs, cw, cd, oR⟩ m h tk F₁ N₁ ⟨hnl, hvr, hvs, hvw, hvd, hring, hstart, hwords, hdrawn, ⟨tl', hlatest⟩, ⟨tt, hturns⟩, ⟨ts, hsince⟩, ⟨th, hhalved⟩, ⟨tw, hwhole⟩⟩ hgo
      unfold Led1 at N₁
      dsimp only at N₁ hvr hvs hvw hvd hring hstart hwords hdrawn hlatest hturns hsince hhalved hwhole
      rcases hNc with rfl | rfl
      · obtain ⟨x, hx0, hx1, hx2, hx3⟩ := law3 hzl (by intro y hy; have := hzb y hy; omega) ⟨by omega, hu0.2⟩ hlat hnl hgo
        have hh1 := halvedAt_le zs n
        have hh2 : halvedAt zs n ≤ 31 := by omega
        k_steps
        k_dflt refine Hold.out (div_at1 (zs := zs) (by assumption) (by assumption) (by assumption) (by assumption) (by assumption) rfl (by k_mem) hvd hzl hzb7 (by decide) (by decide) ?_)
        intro td hd8 tkd8 F8 N8
        k_steps
        refine Hold.out (KMa.mul (vs := [_]) (ws := [_]) (by assumption) (by assumption) (isList_of (by assumption) (by k_mem)) (by decide) (by decide) (Nat.le_of_ble_eq_true rfl) rfl ?_)
        intro D9 h9 F9 N9 lt9
        have lt10 := lt9
        k_lt lt10
        k_steps
        k_dflt refine Hold.out (lword_at1 (x := (u * dall zs).fdiv (2 ^ halvedAt zs n)) (by assumption) (by assumption) (by assumption) (by assumption) (by assumption) rfl (by rw [hx2]; exact ⟨hx0, hx1⟩) (by decide) (by decide) ?_)
        intro tw8 hw8 tkw8 F10 N10
        rw [hx2]
        k_steps
        refine Hold.out (KMa.mul (vs := [_]) (ws := [_, _]) (by assumption) (by assumption) (isList_of (by assumption) (by k_mem)) (by decide) (by decide) (Nat.le_of_ble_eq_true rfl) rfl ?_)
        intro D11 h11 F11 N11 lt11
        have lt12 := lt11
        k_lt lt12
        k_steps
        refine Hold.out (add_made (by assumption) (by assumption) (by k_mem) (by k_mem) (Nat.le_of_ble_eq_true rfl) ?_)
        intro D13 h13 F13 N13 lt13
        have lt14 := lt13
        k_lt lt14
        dsimp only [List.cons_append, List.nil_append] at N13
        k_steps
        rename Fr _ _ _ _ => FS1
        rename News _ _ _ _ => NS1
        k_dflt refine Hold.out (kmk_slice_lit (s := ⟨_, _, _, _, _⟩) (zs := [_, _]) FS1 NS1 (isList_of NS1 (by k_mem)) (.int _ _) .none (by with_unfolding_all rfl) ?_ (by with_unfolding_all rfl) (by intro _; with_unfolding_all rfl) (Nat.le_of_ble_eq_true rfl))
        intro DS1 hS1 FT1 NT1 ltS1
        have ltT1 := ltS1
        k_lt ltT1
        k_steps
        rename Fr _ _ _ _ => FS2
        rename News _ _ _ _ => NS2
        k_dflt refine Hold.out (kmk_slice_lit (s := ⟨_, _, _, _, _⟩) (zs := [_]) FS2 NS2 (isList_of NS2 (by k_mem)) .none (.int _ _) (by with_unfolding_all rfl) ?_ (by with_unfolding_all rfl) (by intro _; with_unfolding_all rfl) (Nat.le_of_ble_eq_true rfl))
        intro DS2 hS2 FT2 NT2 ltS2
        have ltT2 := ltS2
        k_lt ltT2
        k_steps
        refine Hold.out (add_made (by assumption) (by assumption) (by k_mem) (by k_mem) (Nat.le_of_ble_eq_true rfl) ?_)
        intro DA1 hA1 FA1 NA1 ltA1
        have ltB1 := ltA1
        k_lt ltB1
        dsimp only [List.cons_append, List.nil_append] at NA1
        k_steps
        rename Fr _ _ _ _ => FS3
        rename News _ _ _ _ => NS3
        k_dflt refine Hold.out (kmk_slice_lit (s := ⟨_, _, _, _, _⟩) (zs := [_]) FS3 NS3 (isList_of NS3 (by k_mem)) (.int _ _) .none (by with_unfolding_all rfl) ?_ (by with_unfolding_all rfl) (by intro _; with_unfolding_all rfl) (Nat.le_of_ble_eq_true rfl))
        intro DS3 hS3 FT3 NT3 ltS3
        have ltT3 := ltS3
        k_lt ltT3
        k_steps
        rename Fr _ _ _ _ => FS4
        rename News _ _ _ _ => NS4
        k_dflt refine Hold.out (kmk_slice_lit (s := ⟨_, _, _, _, _⟩) (zs := [_, _]) FS4 NS4 (isList_of NS4 (by k_mem)) .none (.int _ _) (by with_unfolding_all rfl) ?_ (by with_unfolding_all rfl) (by intro _; with_unfolding_all rfl) (Nat.le_of_ble_eq_true rfl))
        intro DS4 hS4 FT4 NT4 ltS4
        have ltT4 := ltS4
        k_lt ltT4
        k_steps
        refine Hold.out (add_made (by assumption) (by assumption) (by k_mem) (by k_mem) (Nat.le_of_ble_eq_true rfl) ?_)
        intro DA2 hA2 FA2 NA2 ltA2
        have ltB2 := ltA2
        k_lt ltB2
        dsimp only [List.cons_append, List.nil_append] at NA2
        k_steps
        refine Hold.out (in_three (vw := vw) (bw := wordsAt u zs n) (isList_of (by assumption) (by k_mem)) (isList_of (by assumption) (by k_mem)) (isList_of (by assumption) (by k_mem)) (isList_of (by assumption) (by k_mem)) (isList_of (by assumption) (by k_mem)) hvw (.cons (.cons (.cons .nil))) (.cons (.cons (.cons .nil))) (.cons (.cons (.cons .nil))) (Nat.le_of_ble_eq_true rfl) hx3 ?_)
        k_steps
      · k_steps
        refine Hold.out (KMa.mul (vs := [_]) (ws := [_, _]) (by assumption) (by assumption) (isList_of (by assumption) (by k_mem)) (by decide) (by decide) (Nat.le_of_ble_eq_true rfl) rfl ?_)
        intro D9 h9 F9 N9 lt9
        have lt10 := lt9
        k_lt lt10
        k_steps
        k_dflt refine Hold.out (lword_at1 (x := 0) (by assumption) (by assumption) (by assumption) (by assumption) (by assumption) rfl (by decide) (by decide) (by decide) ?_)
        intro tw8 hw8 tkw8 F10 N10
        rw [show (word (Int.natAbs 0)).toArray = #[] from by simp [word_zero]]
        k_steps
        refine Hold.out (KMa.mul (vs := [_]) (ws := [_, _]) (by assumption) (by assumption) (isList_of (by assumption) (by k_mem)) (by decide) (by decide) (Nat.le_of_ble_eq_true rfl) rfl ?_)
        intro D11 h11 F11 N11 lt11
        have lt12 := lt11
        k_lt lt12
        k_steps
        refine Hold.out (add_made (by assumption) (by assumption) (by k_mem) (by k_mem) (Nat.le_of_ble_eq_true rfl) ?_)
        intro D13 h13 F13 N13 lt13
        have lt14 := lt13
        k_lt lt14
        dsimp only [List.cons_append, List.nil_append] at N13
        k_steps
        rename Fr _ _ _ _ => FS1
        rename News _ _ _ _ => NS1
        k_dflt refine Hold.out (kmk_slice_lit (s := ⟨_, _, _, _, _⟩) (zs := [_, _, _]) FS1 NS1 (isList_of NS1 (by k_mem)) (.int _ _) .none (by with_unfolding_all rfl) ?_ (by with_unfolding_all rfl) (by intro _; with_unfolding_all rfl) (Nat.le_of_ble_eq_true rfl))
        intro DS1 hS1 FT1 NT1 ltS1
        have ltT1 := ltS1
        k_lt ltT1
        k_steps
        rename Fr _ _ _ _ => FS2
        rename News _ _ _ _ => NS2
        k_dflt refine Hold.out (kmk_slice_lit (s := ⟨_, _, _, _, _⟩) (zs := [_]) FS2 NS2 (isList_of NS2 (by k_mem)) .none (.int _ _) (by with_unfolding_all rfl) ?_ (by with_unfolding_all rfl) (by intro _; with_unfolding_all rfl) (Nat.le_of_ble_eq_true rfl))
        intro DS2 hS2 FT2 NT2 ltS2
        have ltT2 := ltS2
        k_lt ltT2
        k_steps
        refine Hold.out (add_made (by assumption) (by assumption) (by k_mem) (by k_mem) (Nat.le_of_ble_eq_true rfl) ?_)
        intro DA1 hA1 FA1 NA1 ltA1
        have ltB1 := ltA1
        k_lt ltB1
        dsimp only [List.cons_append, List.nil_append] at NA1
        k_steps
        rename Fr _ _ _ _ => FS3
        rename News _ _ _ _ => NS3
        k_dflt refine Hold.out (kmk_slice_lit (s := ⟨_, _, _, _, _⟩) (zs := [_, _]) FS3 NS3 (isList_of NS3 (by k_mem)) (.int _ _) .none (by with_unfolding_all rfl) ?_ (by with_unfolding_all rfl) (by intro _; with_unfolding_all rfl) (Nat.le_of_ble_eq_true rfl))
        intro DS3 hS3 FT3 NT3 ltS3
        have ltT3 := ltS3
        k_lt ltT3
        k_steps
        rename Fr _ _ _ _ => FS4
        rename News _ _ _ _ => NS4
        k_dflt refine Hold.out (kmk_slice_lit (s := ⟨_, _, _, _, _⟩) (zs := [_, _]) FS4 NS4 (isList_of NS4 (by k_mem)) .none (.int _ _) (by with_unfolding_all rfl) ?_ (by with_unfolding_all rfl) (by intro _; with_unfolding_all rfl) (Nat.le_of_ble_eq_true rfl))
        intro DS4 hS4 FT4 NT4 ltS4
        have ltT4 := ltS4
        k_lt ltT4
        k_steps
        refine Hold.out (add_made (by assumption) (by assumption) (by k_mem) (by k_mem) (Nat.le_of_ble_eq_true rfl) ?_)
        intro DA2 hA2 FA2 NA2 ltA2
        have ltB2 := ltA2
        k_lt ltB2
        dsimp only [List.cons_append, List.nil_append] at NA2
        k_steps
        refine Hold.out (in_three (vw := vw) (bw := wordsAt u zs n) (isList_of (by assumption) (by k_mem)) (isList_of (by assumption) (by k_mem)) (isList_of (by assumption) (by k_mem)) (isList_of (by assumption) (by k_mem)) (isList_of (by assumption) (by k_mem)) hvw (.cons (.cons (.cons (.cons .nil)))) (.cons (.cons (.cons (.cons .nil)))) (.cons (.cons (.cons (.cons .nil)))) (Nat.le_of_ble_eq_true rfl) (.inl (law4 hzl (by intro y hy; have := hzb y hy; omega) u hlat hnl hgo)) ?_)
        k_steps
    case ask =>
      clear hJ0 hsub0 NX FX
      rintro n ⟨R, S', W, D0, vr, vs, vw, vd, cr, cs, cw, cd, oR⟩ m h tk hnl F₁ N₁ ⟨_, hvr, hvs, hvw, hvd, hring, hstart, hwords, hdrawn, ⟨tl', hlatest⟩, ⟨tt, hturns⟩, ⟨ts, hsince⟩, ⟨th, hhalved⟩, ⟨tw, hwhole⟩⟩
      unfold Led1 at N₁
      dsimp only at N₁ hvr hvs hvw hvd hring hstart hwords hdrawn hlatest hturns hsince hhalved hwhole
      have hnl2 : n = 0 → n < lat := by omega
      k_steps
      · exact ⟨_, _, rfl, by assumption, by assumption, ⟨fun _ => ⟨by omega, .inl (by omega)⟩, fun _ => rfl⟩⟩
      · have hrl := (run1_luc (z := zs) (by omega) n).1
        refine Hold.out (LCt.CompSrcT.ledger rfl (by assumption) (by assumption) (by k_mem) (by rw [List.size_toArray, hvr.length, hrl, sizeLine_eq]; omega) (fun g => ?_))
        refine compT_inv (n := vr.toArray.size) (fun i ys => IntsAre ys (((run1 zs n).ring.take i).filter fun x => decide (0 < x))) ?_ ?_ _ 0 [] (Nat.zero_add _) IntsAre.nil
        · rintro i ys v I oI C oC D m₂ h tk E' hi hys hv0 hC hv F N off ne
          obtain ⟨tv, rfl, hi'⟩ := IntsAre.at' hvr i v (by simpa using hv0)
          k_steps
          · exact filt_yes hys hi' (by rw [decide_eq_true_eq]; assumption)
          · exact filt_no hys hi' (by rw [decide_eq_true_eq]; assumption)
        rintro ys hys
        rw [List.size_toArray, hvr.length, List.take_of_length_le (Nat.le_refl _)] at hys
        have hpn : ys.length = posNum (run1 zs n).ring := hys.length
        have hpl := posNum_le (run1 zs n).ring
        have hn0 : n ≠ 0 := by omega
        k_steps
        refine Hold.out (len_at (n := posNum (run1 zs n).ring) (isList_of (by assumption) (by k_mem)) (by rw [List.size_toArray, hpn]) (by omega) ?_)
        k_steps
        all_goals rename News _ _ _ _ => NE
        all_goals rename Fr _ _ _ _ => FE
        · exact ⟨_, _, rfl, FE, fun p hp => NE p (by first | exact hp | exact .tail _ hp | exact .tail _ (.tail _ hp)), ⟨fun _ => ⟨by omega, .inr (by omega)⟩, fun _ => rfl⟩⟩
        · refine ⟨_, _, rfl, FE, fun p hp => NE p (by first | exact hp | exact .tail _ hp | exact .tail _ (.tail _ hp)), ⟨fun q => Bool.noConfusion q, fun q => ?_⟩⟩
          have := q.2
          omega
      · exact ⟨_, _, rfl, by assumption, by assumption, ⟨fun q => Bool.noConfusion q, fun q => absurd q.1 (by omega)⟩⟩
    case turn =>
    clear hJ0 hsub0 NX FX
    (repeat (rename News _ _ _ _ => NZ; clear NZ))
    (repeat (rename Fr _ _ _ _ => FZ; clear FZ))
    rintro n ⟨R, S', W, D0, vr, vs, vw, vd, cr, cs, cw, cd, oR⟩ m h tk hnl F₁ N₁ ⟨_, hvr, hvs, hvw, hvd, hring, hstart, hwords, hdrawn, ⟨tl', hlatest⟩, ⟨tt, hturns⟩, ⟨ts, hsince⟩, ⟨th, hhalved⟩, ⟨tw, hwhole⟩⟩
    unfold Led1 at N₁
    dsimp only at N₁ hvr hvs hvw hvd hring hstart hwords hdrawn hlatest hturns hsince hhalved hwhole
    have offR1 : Off R (s1.heap.objs.size + 1 + 1 + 1 + 1 + 1) := seq_ne_cell N₁ (by k_mem) (by k_mem) (list_no_cell _ _) hring
    have offS1 : Off S' (s1.heap.objs.size + 1 + 1 + 1 + 1 + 1) := seq_ne_cell N₁ (by k_mem) (by k_mem) (list_no_cell _ _) hring
    have offW1 : Off W (s1.heap.objs.size + 1 + 1 + 1 + 1 + 1) := seq_ne_cell N₁ (by k_mem) (by k_mem) (list_no_cell _ _) hring
    have offD1 : Off D0 (s1.heap.objs.size + 1 + 1 + 1 + 1 + 1) := seq_ne_cell N₁ (by k_mem) (by k_mem) (list_no_cell _ _) hring
    obtain ⟨hrl, hsl, hluc⟩ := run1_luc (z := zs) (by omega) n
    have hrb := run1_in (z := zs) (B := 128) hzb7 (by decide) n
    have hsi := run1_since zs n
    have hsz2 : (run1 zs n).ring.length = sz := hrl.trans hzl
    have hu : 0 ≤ u ∧ u ≤ 4096 := by omega
    have hcb : ∀ i, -(2 ^ 40) < u * dif (run1 zs n).ring i ∧ u * dif (run1 zs n).ring i < 2 ^ 40 := fun i => by
      have := mul_in hu (dif_in hrb (by decide) i)
      omega
    k_steps
    rename IsRange _ _ _ _ _ _ _ _ => rg
    refine Hold.out (LCg.CompSrc.range (n := sz) rfl (by assumption) (by assumption) rg (small_one (by decide) (by decide) (by omega) (by omega)) (rangeSize_nat _ _) (by rw [sizeLine_eq]; omega) (fun g => ?_))
    clear rg
    refine comp_inv (n := sz) (fun i ys => BytesAre ys ((List.range i).map fun j => (word (u * dif (run1 zs n).ring j).natAbs).toArray)) ?turn2 ?done2 sz 0 [] (Nat.zero_add _) BytesAre.nil
    case turn2 =>
      rintro i ys v I oI C oC D m₂ h tk E' hi hys ⟨tv, rfl⟩ hC hv F N off ne
      k_steps
      k_dflt refine Hold.out (int2ap_at1 (by assumption) (by assumption) (by assumption) (by assumption) (by assumption) rfl (hcb i) (by decide) (by decide) ?_)
      intro t' h' tk' F' N'
      k_steps
      rw [range_snoc]
      exact hys.append (.cons .nil)
    case done2 =>
      rintro ws hws
      have hws' : BytesAre ws (wds u (run1 zs n).ring) := by unfold wds; rw [hsz2]; exact hws
      have hwl : ws.length = sz := by rw [hws'.length, wds_len, hsz2]
      k_steps
      refine Hold.out (LCg.CompSrc.ledger rfl (by assumption) (by assumption) (by k_mem) (by rw [List.size_toArray, hwl, sizeLine_eq]; omega) (fun g => ?_))
      refine comp_inv (n := ws.toArray.size) (fun i ys => IntsAre ys ((List.range i).map fun j => ab (dif (run1 zs n).ring j))) ?turn3 ?done3 _ 0 [] (Nat.zero_add _) IntsAre.nil
      case turn3 =>
        rintro i ys v I oI C oC D m₂ h tk E' hi hys hv0 hC hv F N off ne
        obtain ⟨tv, rfl, hi'⟩ := BytesAre.at' hws' i v (by simpa using hv0)
        rw [wds_len] at hi'
        rw [wds_get hi'] at hv
        have hcbi := hcb i
        have hune : u ≠ 0 := by omega
        k_steps
        k_dflt refine Hold.out (lworth_at1 (x := (u * dif (run1 zs n).ring i).natAbs) (by assumption) (by assumption) (by assumption) (by assumption) (by assumption) rfl (by omega) (by decide) (by decide) ?_)
        intro t' h' tk' F' N'
        k_steps
        rw [worth_div (by omega), range_snoc]
        exact hys.append (.cons _ _ .nil)
      case done3 =>
        rintro md hmd
        have hmd' : IntsAre md (made (run1 zs n).ring) := by
          rw [show ws.toArray.size = (run1 zs n).ring.length by rw [List.size_toArray, hwl, hsz2]] at hmd
          exact hmd
        k_steps
        have hfo : fofrom ((run1 zs n).start.length : Int) (run1 zs n).start ((run1 zs n).since + 1) (run1 zs n).start.length 0 = (fstOdd (made (run1 zs n).ring) : Int) := by
          have := hluc.first
          rw [hrl, ← hsl] at this
          exact this
        k_dflt refine Hold.out (fodd_at1 (ns := (run1 zs n).start) (n := (run1 zs n).since + 1) (by assumption) (by assumption) (by assumption) (by assumption) (by assumption) rfl (by k_mem) hvs (by omega) (by omega) (by decide) (by decide) ?_)
        intro t' h' tk' F' N'
        rw [hfo]
        have hmb := made_in hrb (by decide)
        have hml := made_len (run1 zs n).ring
        rw [hsz2] at hml
        have hmn := made_nonneg (run1 zs n).ring
        have hk2 : 0 ≤ ((n : Int) + 1).fmod 2 ∧ ((n : Int) + 1).fmod 2 ≤ 1 := by rw [fmod2]; omega
        have hk10 : 0 ≤ ((n : Int) + 1).fmod 10 ∧ ((n : Int) + 1).fmod 10 < 10 := ⟨Int.fmod_nonneg_of_pos _ (by decide), Int.fmod_lt_of_pos _ (by decide)⟩
        k_steps
        have hmz : md.toArray.size = sz := by rw [List.size_toArray, hmd'.length, hml]
        refine Hold.out (LCg.CompSrc.ledger rfl (by assumption) (by assumption) (by k_mem) (by rw [hmz, sizeLine_eq]; omega) (fun g => ?_))
        refine comp_inv (n := md.toArray.size) (fun i ys => SAre ys (((made (run1 zs n).ring).take i).map fun x => marks x ++ [sg])) ?turn4 ?done4 _ 0 [] (Nat.zero_add _) SAre.nil
        case turn4 =>
          rintro i ys v I oI C oC D m₂ h tk E' hi hys hv0 hC hv F N off ne
          obtain ⟨tv, rfl, hi'⟩ := IntsAre.at' hmd' i v (by simpa using hv0)
          have hx := getD_in hmb (by decide) i
          k_steps
          refine Hold.out (add_eq (List.replicate ((made (run1 zs n).ring).getD i 0).toNat 34) [sg] rfl rfl (by rw [List.length_replicate]; show _ + 1 ≤ _; omega) ?_)
          intro t' k'
          k_steps
          rw [take_snoc _ 0 hi', List.map_append]
          exact hys.append (.cons .nil)
        case done4 =>
          rintro qs hqs
          rw [hmz, List.take_of_length_le (by omega)] at hqs
          k_steps
          refine Hold.out (join_quoted (B := 128) (by decide) (by assumption) (by k_mem) hqs hmb (by omega) ?_)
          intro t' k'
          have hql := quoted_len sg (B := 128) hmb
          rw [hml] at hql
          have hql : (quoted sg (made (run1 zs n).ring)).length ≤ 512 := q_fit hql hNc
          have hb1 := bd1 hql hk2
          have hb2 := bd2 hb1
          k_steps
          refine Hold.out (add_eq [34] (quoted sg (made (run1 zs n).ring)) (by decide) rfl (big hql rfl) ?_)
          intro t' k'
          k_steps
          refine Hold.out (add_eq ([34] ++ quoted sg (made (run1 zs n).ring)) (List.replicate (((n : Int) + 1).fmod 2).toNat 34) rfl rfl (big2 hb2) ?_)
          intro t' k'
          k_steps
          refine Hold.out (add_eq [50, 53, 55, 32] ([34] ++ quoted sg (made (run1 zs n).ring) ++ List.replicate (((n : Int) + 1).fmod 2).toNat 34) (by decide) rfl (big hb2 rfl) ?_)
          intro t' k'
          k_steps
          k_dflt refine Hold.out (parse_at1 (d := 32) (e := 34) (body := quoted sg (made (run1 zs n).ring) ++ List.replicate (((n : Int) + 1).fmod 2).toNat 34) (by assumption) (by assumption) (by assumption) (by assumption) (by assumption) rfl ⟨rfl, S_fit (a := [50, 53, 55, 32]) hb2 rfl⟩ (by decide) (by decide) ?_)
          intro t' h' tk' F' N'
          rw [told_law hsg.2 _ (by omega) hmn]
          have hf5 := fstOdd_le (made (run1 zs n).ring)
          rw [hml] at hf5
          k_steps
          have hI9 : ∀ t0, IntsAre (md ++ [.int 0 t0]) (made (run1 zs n).ring ++ [0]) := fun t0 => hmd'.append (.cons _ _ .nil)
          refine Hold.out (add_made (by assumption) (by assumption) (by k_mem) (by k_mem) (by rw [hmd'.length, hml]; exact sz_fit2 hNc) ?_)
          intro D9 h9 F9 N9 lt9
          have lt10 := lt9
          k_lt lt10
          k_steps
          rename Fr _ _ _ _ => F10
          rename News _ _ _ _ => N10
          have hf1 : ((fstOdd (made (run1 zs n).ring) : Int) + 1).toNat = fstOdd (made (run1 zs n).ring) + 1 := by omega
          k_dflt (refine Hold.out (kmk_slice_ints (s := ⟨_, _, _, _, _⟩) F10 N10 (isList_of N10 (by k_mem)) .none (.int _ _) (hI9 _) (kmk_upto (hI9 _) (by omega)) rfl ?_ (by with_unfolding_all rfl) (by intro _; with_unfolding_all rfl) (by rw [List.size_toArray, (hI9 _).length, List.length_append, hml, sizeLine_eq]; exact sz_fit hNc)))
          intro D11 ws11 h11 F11 N11 lt11 hI11 _ _
          have lt12 := lt11
          k_lt lt12
          rw [hf1] at hI11
          generalize hf : fstOdd (made (run1 zs n).ring) = f at *
          have hl11 : ((made (run1 zs n).ring ++ [0]).take (f + 1)).length = f + 1 := by rw [List.length_take, List.length_append, hml]; simp; exact Nat.min_eq_left hf5
          have hb11 : ∀ x ∈ (made (run1 zs n).ring ++ [0]).take (f + 1), 0 ≤ x ∧ x < 128 := by
            intro x hx
            rcases List.mem_append.mp (List.mem_of_mem_take hx) with hx | hx
            · exact hmb x hx
            · have : x = 0 := by simpa using hx
              omega
          k_steps
          refine Hold.out (LCg.CompSrc.ledger rfl (by assumption) (by assumption) (by k_mem) (by rw [List.size_toArray, hI11.length, hl11, sizeLine_eq]; exact f_fit hf5 hNc) (fun g => ?_))
          refine comp_inv (n := _) (fun i ys => SAre ys ((((made (run1 zs n).ring ++ [0]).take (f + 1)).take i).map half)) ?turn5 ?done5 _ 0 [] (Nat.zero_add _) SAre.nil
          case turn5 =>
            rintro i ys v I oI C oC D m₂ h tk E' hi hys hv0 hC hv F N off ne
            obtain ⟨tv, rfl, hi'⟩ := IntsAre.at' hI11 i v (by simpa using hv0)
            have hx := getD_in hb11 (by decide) i
            have hx2 : 0 ≤ (((made (run1 zs n).ring ++ [0]).take (f + 1)).getD i 0).fdiv 2 ∧ (((made (run1 zs n).ring ++ [0]).take (f + 1)).getD i 0).fdiv 2 < 128 := by rw [fdiv2]; omega
            k_steps
            rw [take_snoc _ 0 hi', List.map_append]
            exact hys.append (.cons .nil)
          case done5 =>
            rintro ps hps
            rw [List.size_toArray, hI11.length, hl11, List.take_of_length_le (by omega)] at hps
            k_steps
            have hsum := half_sum (B := 128) hb11
            rw [hl11] at hsum
            refine Hold.out (join_eq [sg] rfl (by assumption) (by k_mem) hps ?_ ?_)
            · rw [List.length_map, hl11]
              exact sum_fit hsum hf5 hNc
            intro t' k'
            k_steps
            refine Hold.out (ne_same ?_)
            k_steps
            refine Hold.out (str_of_int_fit (N := 10) (by split <;> omega) (by decide) fun _ => ?_)
            rw [digit_S hk10]
            k_steps
            refine Hold.out (add_eq [50, 53] [48 + (((n : Int) + 1).fmod 10).toNat] (by decide) rfl (Nat.le_of_ble_eq_true rfl) ?_)
            intro t' k'
            k_steps
            refine Hold.out (add_eq [50, 53, 48 + (((n : Int) + 1).fmod 10).toNat] [32] rfl (by decide) (Nat.le_of_ble_eq_true rfl) ?_)
            intro t' k'
            k_steps
            refine Hold.out (add_eq [50, 53, 48 + (((n : Int) + 1).fmod 10).toNat, 32] ([34] ++ quoted sg (made (run1 zs n).ring) ++ List.replicate (((n : Int) + 1).fmod 2).toNat 34) rfl rfl (big hb2 rfl) ?_)
            intro t' k'
            k_steps
            rename Fr _ _ _ _ => FJ
            rename News _ _ _ _ => NJ
            refine Hold.out (if_join FJ NJ (fun ifm => ?_) fun hJ tkJ FJ' NJ' => ?_)
            · by_cases h7 : ((n : Int) + 1).fmod 10 = 7
              · have h7n : (((n : Int) + 1).fmod 10).toNat = 7 := by omega
                k_steps
                k_dflt refine Hold.out (told_good (d := 32) (e := 34) (body := quoted sg (made (run1 zs n).ring) ++ List.replicate (((n : Int) + 1).fmod 2).toNat 34) (by assumption) (by assumption) (by assumption) (by assumption) (by assumption) rfl ⟨by rw [h7n], S_fit (a := [50, 53, 48 + (((n : Int) + 1).fmod 10).toNat, 32]) hb2 rfl⟩ (by decide) (by decide) ?_)
                intro t' h' tk' F' N'
                rw [told_law hsg.2 _ (by omega) hmn, hf]
                k_steps
                all_goals try (exfalso; omega)
                refine Hold.out (ne_same ?_)
                k_steps
                exact IfOut.intro (by assumption) (by assumption) (fun p hp => by first | exact hp | exact .tail _ hp | exact .tail _ (.tail _ hp))
              · k_steps
                k_dflt refine Hold.out (told_bad (c := 48 + (((n : Int) + 1).fmod 10).toNat) (d := 32) (e := 34) (body := quoted sg (made (run1 zs n).ring) ++ List.replicate (((n : Int) + 1).fmod 2).toNat 34) (by omega) (by assumption) (by assumption) (by assumption) (by assumption) (by assumption) rfl ⟨rfl, S_fit (a := [50, 53, 48 + (((n : Int) + 1).fmod 10).toNat, 32]) hb2 rfl⟩ (by decide) (by decide) ?_)
                intro l' t' h' tk' F' N'
                k_steps
                all_goals try (exfalso; omega)
                refine Hold.out (ne_str1 (isList_of (by assumption) (by k_mem)) (isList_of (by assumption) (by k_mem)) (Nat.le_of_ble_eq_true rfl) ?_)
                k_steps
                exact IfOut.intro (by assumption) (by assumption) (fun p hp => by first | exact hp | exact .tail _ hp | exact .tail _ (.tail _ hp))
            · k_steps
              rename Fr _ _ _ _ => FK
              rename News _ _ _ _ => NK
              refine Hold.out (if_join FK NK (fun ifm => ?_) fun hK tkK FK' NK' => ?_)
              · k_steps
                refine Hold.out (add_eq [50, 53, 55] [sg] (by decide) rfl (Nat.le_of_ble_eq_true rfl) ?_)
                intro t' k'
                k_steps
                refine Hold.out (add_eq [50, 53, 55, sg] ([34] ++ quoted sg (made (run1 zs n).ring) ++ List.replicate (((n : Int) + 1).fmod 2).toNat 34) rfl rfl (big hb2 rfl) ?_)
                intro t' k'
                k_steps
                k_dflt refine Hold.out (told_good (d := sg) (e := 34) (body := quoted sg (made (run1 zs n).ring) ++ List.replicate (((n : Int) + 1).fmod 2).toNat 34) (by assumption) (by assumption) (by assumption) (by assumption) (by assumption) rfl ⟨rfl, S_fit (a := [50, 53, 55, sg]) hb2 rfl⟩ (by decide) (by decide) ?_)
                intro t' h' tk' F' N'
                k_steps
                · rename (S [sg] == Str.ofString " ") = true => hbl
                  have ht : told sg 34 (quoted sg (made (run1 zs n).ring) ++ List.replicate (((n : Int) + 1).fmod 2).toNat 34) = S (tells sg (made (run1 zs n).ring) f) := by
                    have := told_law (sg := sg) hsg.2 (((n : Int) + 1).fmod 2).toNat (by omega) hmn
                    rw [hf] at this
                    rw [← this, told_blank hbl]
                  rw [ht]
                  refine Hold.out (ne_same ?_)
                  k_steps
                  refine Hold.out (add_eq [50, 53, 55, 32] [sg] (by decide) rfl (Nat.le_of_ble_eq_true rfl) ?_)
                  intro t' k'
                  k_steps
                  refine Hold.out (add_eq [50, 53, 55, 32, sg] ([34] ++ quoted sg (made (run1 zs n).ring) ++ List.replicate (((n : Int) + 1).fmod 2).toNat 34) rfl rfl (big hb2 rfl) ?_)
                  intro t' k'
                  k_steps
                  k_dflt refine Hold.out (told_good (d := 32) (e := sg) (body := [34] ++ quoted sg (made (run1 zs n).ring) ++ List.replicate (((n : Int) + 1).fmod 2).toNat 34) (by assumption) (by assumption) (by assumption) (by assumption) (by assumption) rfl ⟨rfl, S_fit (a := [50, 53, 55, 32, sg]) hb2 rfl⟩ (by decide) (by decide) ?_)
                  intro t' h' tk' F' N'
                  rw [told_no2 hsg.2]
                  k_steps
                  refine Hold.out (ne_same ?_)
                  k_steps
                  exact IfOut.intro (by assumption) (by assumption) (fun p hp => by first | exact hp | exact .tail _ hp | exact .tail _ (.tail _ hp))
                · rename (S [sg] == Str.ofString " ") = false => hbl
                  rw [told_no (told_other hbl)]
                  refine Hold.out (ne_same ?_)
                  k_steps
                  refine Hold.out (add_eq [50, 53, 55, 32] [sg] (by decide) rfl (Nat.le_of_ble_eq_true rfl) ?_)
                  intro t' k'
                  k_steps
                  refine Hold.out (add_eq [50, 53, 55, 32, sg] ([34] ++ quoted sg (made (run1 zs n).ring) ++ List.replicate (((n : Int) + 1).fmod 2).toNat 34) rfl rfl (big hb2 rfl) ?_)
                  intro t' k'
                  k_steps
                  k_dflt refine Hold.out (told_good (d := 32) (e := sg) (body := [34] ++ quoted sg (made (run1 zs n).ring) ++ List.replicate (((n : Int) + 1).fmod 2).toNat 34) (by assumption) (by assumption) (by assumption) (by assumption) (by assumption) rfl ⟨rfl, S_fit (a := [50, 53, 55, 32, sg]) hb2 rfl⟩ (by decide) (by decide) ?_)
                  intro t' h' tk' F' N'
                  rw [told_no2 hsg.2]
                  k_steps
                  refine Hold.out (ne_same ?_)
                  k_steps
                  exact IfOut.intro (by assumption) (by assumption) (fun p hp => by first | exact hp | exact .tail _ hp | exact .tail _ (.tail _ hp))
              · k_steps
                · rename (f : Int) = (sz : Int) => hf6
                  have hf7 : fstOdd (made (run1 zs n).ring) = (run1 zs n).ring.length := by rw [hf, hsz2]; exact Int.ofNat_inj.mp hf6
                  have hf8 : fstOdd (made (run1 zs n).ring) = (made (run1 zs n).ring).length := by rw [hf7, made_len]
                  have hrun := run1_yes hf7
                  refine Hold.out (split_S (ps := (made (run1 zs n).ring).map half ++ [[]]) (by rw [← hf, hf8]; exact tells_all sg _) (by simp) (half_free hsg.2 _) (by assumption) (by assumption) ?_ ?_)
                  · have h1 := glue_len sg (((made (run1 zs n).ring ++ [0]).take (f + 1)).map half)
                    rw [List.length_map, hl11] at h1
                    unfold tells
                    exact glue_fit h1 hsum hf5 hNc
                  intro D6 vs6 h6 k6 hps6 F6 N6 lt6
                  have lt7 := lt6
                  k_lt lt7
                  k_steps
                  have hz6 : vs6.toArray.size = sz + 1 := by rw [List.size_toArray, hps6.length, List.length_append, List.length_map, hml]; rfl
                  refine Hold.out (LCg.CompSrc.ledger rfl (by assumption) (by assumption) (by k_mem) (by rw [hz6, sizeLine_eq]; exact sz_fit hNc) (fun g => ?_))
                  refine comp_inv (n := _) (fun i ys => IntsAre ys ((((made (run1 zs n).ring).map half ++ [[]]).take i).map fun p : List Nat => (p.length : Int))) ?turn6 ?done6 _ 0 [] (Nat.zero_add _) IntsAre.nil
                  case turn6 =>
                    rintro i ys v I oI C oC D m₂ h tk E' hi hys hv0 hC hv F N off ne
                    obtain ⟨p, tv, rfl, hi'⟩ := SAre.get hps6 i v (by simpa using hv0)
                    k_steps
                    refine Hold.out (len_S ?_ ?_)
                    · have := half_small (B := 128) hmb p (List.mem_of_getElem? hi')
                      omega
                    intro t' k'
                    k_steps
                    rw [List.take_add_one, hi', List.map_append]
                    exact hys.append (.cons _ _ .nil)
                  case done6 =>
                    rintro ks hks
                    rw [hz6, List.take_of_length_le (by rw [List.length_append, List.length_map, hml]; simp)] at hks
                    have hkl : ks.toArray.size = sz + 1 := by rw [List.size_toArray, hks.length, List.length_map, List.length_append, List.length_map, hml]; rfl
                    k_steps
                    rename Fr _ _ _ _ => F8
                    rename News _ _ _ _ => N8
                    k_dflt (refine Hold.out (kmk_slice_ints (s := ⟨_, _, _, _, _⟩) F8 N8 (isList_of N8 (by k_mem)) .none (.int _ _) hks (kmk_upto hks (Int.natCast_nonneg _)) rfl ?_ (by with_unfolding_all rfl) (by intro _; with_unfolding_all rfl) (by rw [hkl, sizeLine_eq]; exact sz_fit hNc)))
                    intro D12 ws12 h12 F12 N12 lt12' hI12 _ _
                    have lt13 := lt12'
                    k_lt lt13
                    have hlens := half_lens (made (run1 zs n).ring) hmn
                    rw [hml] at hlens
                    rw [show ((sz : Int)).toNat = sz from rfl, hlens] at hI12
                    k_steps
                    rename News _ _ _ _ => NE
                    rename Fr _ _ _ _ => FE
                    obtain ⟨c, hsub, hJ⟩ := JL1.of (zs := zs) (u := u) (n := n + 1) (k := lat - (n + 1)) (lat := lat) FE NE (by k_mem) (by assumption) (by k_mem) (by first | exact rfl | with_unfolding_all assumption) (by k_mem) (by first | exact rfl | with_unfolding_all assumption) (by k_mem) (by first | exact rfl | with_unfolding_all assumption) (by k_mem) (by k_mem) (by k_mem) (by k_mem) (by k_mem)
                      (by first | exact rfl | with_unfolding_all assumption) (by first | exact rfl | with_unfolding_all assumption) (by first | exact rfl | with_unfolding_all assumption) (by first | exact rfl | with_unfolding_all assumption) (by first | exact rfl | with_unfolding_all assumption) (by omega) (by rw [hrun]; rfl) rfl (by rw [hrun]; rfl) (by rw [hrun]; exact hI12) (by rw [hrun]; exact hI12) hws' hvd
                    exact ⟨rfl, c, _, _, _, rfl, FE, fun p hp => NE p (hsub p hp), hJ⟩
                · rename ¬ (f : Int) = (sz : Int) => hf6
                  have hf7 : ¬ fstOdd (made (run1 zs n).ring) = (run1 zs n).ring.length := by rw [hf, hsz2]; exact fun e => hf6 (congrArg Int.ofNat e)
                  have hrun := run1_no hf7
                  rename News _ _ _ _ => NE
                  rename Fr _ _ _ _ => FE
                  obtain ⟨c, hsub, hJ⟩ := JL1.of (zs := zs) (u := u) (n := n + 1) (k := lat - (n + 1)) (lat := lat) FE NE (by k_mem) (by assumption) (by k_mem) (by first | exact rfl | with_unfolding_all assumption) (by k_mem) (by first | exact rfl | with_unfolding_all assumption) (by k_mem) (by first | exact rfl | with_unfolding_all assumption) (by k_mem) (by k_mem) (by k_mem) (by k_mem) (by k_mem)
                    (by first | exact rfl | with_unfolding_all assumption) (by first | exact rfl | with_unfolding_all assumption) (by first | exact rfl | with_unfolding_all assumption) (by first | exact rfl | with_unfolding_all assumption) (by first | exact rfl | with_unfolding_all assumption) (by omega) (by rw [hrun]; rfl) rfl (by rw [hrun]) (by rw [hrun]; exact hmd') (by rw [hrun]; exact hvs) hws' hvd
                  exact ⟨rfl, c, _, _, _, rfl, FE, fun p hp => NE p (hsub p hp), hJ⟩
  )
end Mine
theorem PySem.Challenge.cw_pm0003_01_holds : PySem.Challenge.rw_pm0003_01.Holds :=
  Mine.X1
