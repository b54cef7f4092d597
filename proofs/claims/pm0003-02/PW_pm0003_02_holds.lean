import PyProof.Rows.All
import Wide.All
import OpenK.AllK
import Wide.FinOn
import PySem.Challenge.RW_pm0003_02
open PySem PySem.W PyProof.Rows
set_option Elab.async false
namespace Mine
def word : Nat → List UInt8
  | 0 => []
  | n+1 => word ((n+1)/16) ++ [UInt8.ofNat (65 + (n+1) % 16)]
decreasing_by omega
theorem word_step {n : Nat} (h : n ≠ 0) : word n = word (n / 16) ++ [UInt8.ofNat (65 + n % 16)] := by
  cases n with
  | zero => exact absurd rfl h
  | succ n => rw [word]
theorem word_zero : word 0 = [] := by rw [word]
/-- the digits as the law writes them: k of them, highest first -/
def lawDigits (x : Int) : Nat → List Int
  | 0 => []
  | k + 1 => (65 + (x.fdiv (16 ^ k)).fmod 16) :: lawDigits x k
theorem lawDigits_word (x : Nat) : ∀ k, x < 16 ^ k → (k = 0 ∨ 16 ^ (k - 1) ≤ x) → (lawDigits (x : Int) k).map (fun n => n.toNat.toUInt8) = word x := by
  have gen : ∀ (k x : Nat), (lawDigits (x : Int) (k + 1)).map (fun n => n.toNat.toUInt8) = (lawDigits ((x / 16 : Nat) : Int) k).map (fun n => n.toNat.toUInt8) ++ [UInt8.ofNat (65 + x % 16)] := by
    intro k
    induction k with
    | zero =>
      intro x
      simp only [lawDigits, List.map_cons, List.map_nil, List.nil_append, List.cons.injEq, and_true]
      have : (65 + ((x : Int).fdiv (16 ^ 0)).fmod 16).toNat = 65 + x % 16 := by
        rw [Int.fdiv_eq_ediv_of_nonneg _ (by decide), Int.fmod_eq_emod_of_nonneg _ (by decide)]
        simp only [Int.pow_zero, Int.ediv_one]; omega
      rw [this]
    | succ k ih =>
      intro x
      have e : lawDigits (x : Int) (k + 1 + 1) = (65 + ((x : Int).fdiv (16 ^ (k + 1))).fmod 16) :: lawDigits (x : Int) (k + 1) := rfl
      have e2 : lawDigits ((x / 16 : Nat) : Int) (k + 1) = (65 + (((x / 16 : Nat) : Int).fdiv (16 ^ k)).fmod 16) :: lawDigits ((x / 16 : Nat) : Int) k := rfl
      rw [e, e2, List.map_cons, List.map_cons, ih, List.cons_append]
      congr 3
      have p : (0 : Int) ≤ 16 ^ k := Int.pow_nonneg (by decide)
      have p2 : (0 : Int) ≤ 16 ^ (k + 1) := Int.pow_nonneg (by decide)
      rw [Int.fdiv_eq_ediv_of_nonneg _ p, Int.fdiv_eq_ediv_of_nonneg _ p2, Int.pow_succ, Int.mul_comm, ← Int.ediv_ediv_of_nonneg (by decide)]
      rfl
  intro k
  induction k generalizing x with
  | zero => intro h _; simp at h; subst h; simp [lawDigits, word_zero]
  | succ k ih =>
    intro h h2
    rcases h2 with h2 | h2
    · cases h2
    · have hx : x ≠ 0 := by
        have : 0 < 16 ^ k := Nat.pow_pos (by decide)
        simp at h2; omega
      rw [gen, word_step hx, ih (x / 16) ?_ ?_]
      · rw [Nat.pow_succ] at h; omega
      · cases k with
        | zero => exact .inl rfl
        | succ k =>
          right
          simp at h2 ⊢
          rw [Nat.pow_succ] at h2; omega
theorem lawDigits_in (x : Int) : ∀ k, ∀ n ∈ lawDigits x k, 65 ≤ n ∧ n < 81
  | 0, n, h => nomatch h
  | k + 1, n, h => by
    rcases List.mem_cons.mp h with rfl | h
    · have h1 := Int.fmod_nonneg_of_pos (x.fdiv (16 ^ k)) (b := 16) (by decide)
      have h2 := Int.fmod_lt_of_pos (x.fdiv (16 ^ k)) (b := 16) (by decide)
      omega
    · exact lawDigits_in x k n h
/-- the word of x, of k figures -/
theorem lw_word {x : Int} (h0 : 0 ≤ x) (k : Nat) (h1 : ¬ 16 ^ k ≤ x) (h2 : k = 0 ∨ 16 ^ (k - 1) ≤ x) : byteArr (lawDigits x k) = (word x.natAbs).toArray := by
  obtain ⟨n, rfl⟩ := Int.eq_ofNat_of_zero_le h0
  unfold byteArr
  rw [lawDigits_word n k ?_ ?_]
  · rfl
  · have : ((16 ^ k : Nat) : Int) = 16 ^ k := by simp
    omega
  · refine h2.imp id fun h => ?_
    have : ((16 ^ (k - 1) : Nat) : Int) = 16 ^ (k - 1) := by simp
    omega
theorem isList_of {h₀ h : Heap} {L D : Addr} {news : List (Addr × Obj)} {us : List Value} {c : Nat} (N : News h₀ L h news) (hm : (D, listOf us.toArray c) ∈ news) : h.IsList D us.toArray := ⟨_, (N _ hm).1, rfl, c, rfl⟩
section
variable {h₀ h' : Heap} {L : Addr} {m : Str → Option Value} {news news' : List (Addr × Obj)} {s : Shared} {Q : Value → Shared → Prop} {t : Tok} {tk' : Nat}
theorem ret_y {x y : Array UInt8} (hret : ∀ (t : Tok) (h' : Heap) (tk' : Nat), Fr h₀ L h' m → News h₀ L h' news → Q (.bytes x t) { s with heap := h', toks := tk' }) (e : y = x) (F : Fr h₀ L h' m) (N : News h₀ L h' news') (sub : ∀ p ∈ news, p ∈ news') : Q (.bytes y t) { s with heap := h', toks := tk' } := by
  subst e
  exact hret t h' tk' F (cb_drop N sub)
theorem ret_i {x y : Int} (hret : ∀ (t : Tok) (h' : Heap) (tk' : Nat), Fr h₀ L h' m → News h₀ L h' news → Q (.int x t) { s with heap := h', toks := tk' }) (e : y = x) (F : Fr h₀ L h' m) (N : News h₀ L h' news') (sub : ∀ p ∈ news, p ∈ news') : Q (.int y t) { s with heap := h', toks := tk' } := by
  subst e
  exact hret t h' tk' F (cb_drop N sub)
end
end Mine
namespace Mine
def p257 : List Nat → List Nat
  | [] => []
  | [c] => if c = 34 then [] else [c]
  | c :: d :: r => if c = 34 then (if d = 34 then 34 :: p257 r else []) else c :: p257 (d :: r)
theorem p257_other {c : Nat} (h : c ≠ 34) (r : List Nat) : p257 (c :: r) = c :: p257 r := by
  cases r with
  | nil => simp [p257, h]
  | cons d r => simp [p257, h]
theorem p257_pair (r : List Nat) : p257 (34 :: 34 :: r) = 34 :: p257 r := by simp [p257]
theorem p257_end : p257 [34] = [] := by simp [p257]
theorem p257_stop {d : Nat} (h : d ≠ 34) (r : List Nat) : p257 (34 :: d :: r) = [] := by simp [p257, h]
def PEq (x d : Str) (i : Int) : Prop := d.cps.toList ++ p257 (x.cps.toList.drop i.toNat) = p257 (x.cps.toList.drop 5)
theorem p_start {x : Str} {a b c d e : Nat} {body : List Nat} (h : x.cps.toList = a :: b :: c :: d :: e :: body ∧ x.length ≤ 100000) : 5 ≤ (5 : Int) ∧ (5 : Int) ≤ (x.length : Int) ∧ ((Str.ofString "").length : Int) ≤ 5 ∧ x.length ≤ 100000 ∧ PEq x (Str.ofString "") 5 := by
  refine ⟨by decide, ?_, by decide, h.2, by simp [PEq, show (Str.ofString "").cps = #[] from by decide]⟩
  have := congrArg List.length h.1
  have e : x.length = x.cps.size := rfl
  simp at this; omega
theorem slice_nat (x : Str) {a b : Nat} (hab : a ≤ b) (hb : b ≤ x.length) : Txt.slice x (some (a : Int)) (some (b : Int)) = ⟨((x.cps.toList.drop a).take (b - a)).toArray⟩ := StrLaws.sliceText_nat x hab hb
theorem slice_3 {x : Str} {a b c d e : Nat} {body : List Nat} (h : x.cps.toList = a :: b :: c :: d :: e :: body) : Txt.slice x none (some 3) = ⟨#[a, b, c]⟩ := by
  have e1 : Txt.slice x none (some 3) = Txt.slice x (some ((0 : Nat) : Int)) (some ((3 : Nat) : Int)) := by
    unfold Txt.slice
    rw [StrLaws.sliceIdx_none_lo]; rfl
  have hl : 5 ≤ x.length := by
    have := congrArg List.length h
    have e : x.length = x.cps.size := rfl
    simp at this; omega
  rw [e1, slice_nat x (by omega) (by omega), h]
  rfl
theorem slice_35 {x : Str} {a b c d e : Nat} {body : List Nat} (h : x.cps.toList = a :: b :: c :: d :: e :: body) : Txt.slice x (some 3) (some 5) = ⟨#[d, e]⟩ := by
  have hl : 5 ≤ x.length := by
    have := congrArg List.length h
    have e : x.length = x.cps.size := rfl
    simp at this; omega
  have := slice_nat x (a := 3) (b := 5) (by omega) (by omega)
  rw [h] at this
  exact this
theorem item_q {x : Str} {i : Int} (h0 : 0 ≤ i) (h1 : i < x.length) : Txt.item x i = ⟨#[x.cps.getD i.toNat 0]⟩ ∧ x.cps.toList.drop i.toNat = x.cps.getD i.toNat 0 :: x.cps.toList.drop (i + 1).toNat := by
  refine ⟨item_meets ⟨h0, h1⟩, ?_⟩
  have e : x.length = x.cps.size := rfl
  have e2 : (i + 1).toNat = i.toNat + 1 := by omega
  have hlt : i.toNat < x.cps.toList.length := by simp; omega
  rw [e2, List.drop_eq_getElem_cons hlt]
  congr 1
  have h3 : i.toNat < x.cps.size := by omega
  simp [h3]
theorem quote_eq : Str.ofString "\"" = ⟨#[34]⟩ := by decide
theorem item_is {x : Str} {i : Int} (h0 : 0 ≤ i) (h1 : i < x.length) (h : (Txt.item x i == Str.ofString "\"") = true) : x.cps.getD i.toNat 0 = 34 := by
  rw [(item_q h0 h1).1, quote_eq] at h
  simpa using h
theorem item_not {x : Str} {i : Int} (h0 : 0 ≤ i) (h1 : i < x.length) (h : (Txt.item x i == Str.ofString "\"") = false) : x.cps.getD i.toNat 0 ≠ 34 := by
  rw [(item_q h0 h1).1, quote_eq] at h
  simpa using h
theorem item_nis {x : Str} {i : Int} (h0 : 0 ≤ i) (h1 : i < x.length) (h : (Txt.item x i != Str.ofString "\"") = true) : x.cps.getD i.toNat 0 ≠ 34 := item_not h0 h1 (by simpa [bne] using h)
theorem item_nnot {x : Str} {i : Int} (h0 : 0 ≤ i) (h1 : i < x.length) (h : (Txt.item x i != Str.ofString "\"") = false) : x.cps.getD i.toNat 0 = 34 := item_is h0 h1 (by simpa [bne] using h)
theorem cat_item {x d : Str} {i : Int} (h0 : 0 ≤ i) (h1 : i < x.length) : (d ++ Txt.item x i).cps.toList = d.cps.toList ++ [x.cps.getD i.toNat 0] ∧ (d ++ Txt.item x i).length = d.length + 1 := by
  rw [(item_q h0 h1).1]
  refine ⟨by simp [Str.cps_append], by simp [Str.length_append]; rfl⟩
/-- a pair of marks is taken -/
theorem p_pair {x d : Str} {i : Int} (h0 : 5 ≤ i) (_ : i ≤ (x.length : Int)) (hd : (d.length : Int) ≤ i) (hx : x.length ≤ 100000) (h : PEq x d i) (h1 : i < (x.length : Int)) (q1 : (Txt.item x i == Str.ofString "\"") = true)
    (h2 : ¬ (x.length : Int) ≤ i + 1) (q2 : (Txt.item x (i + 1) != Str.ofString "\"") = false) : 5 ≤ i + 1 + 1 ∧ i + 1 + 1 ≤ (x.length : Int) ∧ ((d ++ Txt.item x i).length : Int) ≤ i + 1 + 1 ∧ x.length ≤ 100000 ∧ PEq x (d ++ Txt.item x i) (i + 1 + 1) := by
  obtain ⟨c1, c2⟩ := cat_item (d := d) (x := x) (i := i) (by omega) h1
  have a := item_is (by omega) h1 q1
  have b := item_nnot (by omega) (by omega) q2
  have e1 := (item_q (x := x) (i := i) (by omega) h1).2
  have e2 := (item_q (x := x) (i := i + 1) (by omega) (by omega)).2
  refine ⟨by omega, by omega, by omega, hx, ?_⟩
  unfold PEq at h ⊢
  rw [← h, c1, e1, e2, a, b, p257_pair]
  simp
theorem p_other {x d : Str} {i : Int} (h0 : 5 ≤ i) (_ : i ≤ (x.length : Int)) (hd : (d.length : Int) ≤ i) (hx : x.length ≤ 100000) (h : PEq x d i) (h1 : i < (x.length : Int)) (q1 : (Txt.item x i == Str.ofString "\"") = false) :
    5 ≤ i + 1 ∧ i + 1 ≤ (x.length : Int) ∧ ((d ++ Txt.item x i).length : Int) ≤ i + 1 ∧ x.length ≤ 100000 ∧ PEq x (d ++ Txt.item x i) (i + 1) := by
  obtain ⟨c1, c2⟩ := cat_item (d := d) (x := x) (i := i) (by omega) h1
  have a := item_not (by omega) h1 q1
  have e1 := (item_q (x := x) (i := i) (by omega) h1).2
  refine ⟨by omega, by omega, by omega, hx, ?_⟩
  unfold PEq at h ⊢
  rw [← h, c1, e1, p257_other a]
  simp
theorem p_out {x d : Str} {i : Int} (h0 : 5 ≤ i) (h : PEq x d i) (h1 : ¬ i < (x.length : Int)) : d = ⟨(p257 (x.cps.toList.drop 5)).toArray⟩ := by
  unfold PEq at h
  have e : x.cps.toList.drop i.toNat = [] := List.drop_eq_nil_of_le (by have e : x.length = x.cps.size := rfl; simp; omega)
  rw [e] at h
  rw [← h]; simp [p257]
theorem p_brk1 {x d : Str} {i : Int} (h0 : 5 ≤ i) (h : PEq x d i) (h1 : i < (x.length : Int)) (q1 : (Txt.item x i == Str.ofString "\"") = true) (h2 : (x.length : Int) ≤ i + 1) : d = ⟨(p257 (x.cps.toList.drop 5)).toArray⟩ := by
  unfold PEq at h
  have a := item_is (by omega) h1 q1
  have e1 := (item_q (x := x) (i := i) (by omega) h1).2
  have e : x.cps.toList.drop (i + 1).toNat = [] := List.drop_eq_nil_of_le (by have e : x.length = x.cps.size := rfl; simp; omega)
  rw [e1, e, a, p257_end] at h
  rw [← h]; simp
theorem p_brk2 {x d : Str} {i : Int} (h0 : 5 ≤ i) (h : PEq x d i) (h1 : i < (x.length : Int)) (q1 : (Txt.item x i == Str.ofString "\"") = true) (h2 : ¬ (x.length : Int) ≤ i + 1) (q2 : (Txt.item x (i + 1) != Str.ofString "\"") = true) : d = ⟨(p257 (x.cps.toList.drop 5)).toArray⟩ := by
  unfold PEq at h
  have a := item_is (by omega) h1 q1
  have b := item_nis (by omega) (by omega) q2
  have e1 := (item_q (x := x) (i := i) (by omega) h1).2
  have e2 := (item_q (x := x) (i := i + 1) (by omega) (by omega)).2
  rw [e1, e2, a, p257_stop b] at h
  rw [← h]; simp
theorem code_eq : Str.ofString "257" = ⟨#[50, 53, 55]⟩ := by decide
theorem open_eq : Str.ofString " \"" = ⟨#[32, 34]⟩ := by decide
theorem none_eq : Str.ofString "" = ⟨#[]⟩ := by decide
theorem p_code {x : Str} {d e : Nat} {body : List Nat} (h : x.cps.toList = 50 :: 53 :: 55 :: d :: e :: body ∧ x.length ≤ 100000) (q : (Txt.slice x none (some 3) != Str.ofString "257") = true) : False := by
  rw [slice_3 h.1, code_eq] at q
  simp at q
def told (d e : Nat) (body : List Nat) : Str := if d = 32 ∧ e = 34 then ⟨(p257 body).toArray⟩ else ⟨#[]⟩
theorem p_none {x : Str} {d e : Nat} {body : List Nat} (h : x.cps.toList = 50 :: 53 :: 55 :: d :: e :: body ∧ x.length ≤ 100000) (q : (Txt.slice x (some 3) (some 5) != Str.ofString " \"") = true) : Str.ofString "" = told d e body := by
  rw [slice_35 h.1, open_eq] at q
  simp only [bne_iff_ne, ne_eq, Str.mk.injEq] at q
  unfold told
  rw [if_neg, none_eq]
  rintro ⟨rfl, rfl⟩
  exact q rfl
theorem p_told {x y : Str} {d e : Nat} {body : List Nat} (h : x.cps.toList = 50 :: 53 :: 55 :: d :: e :: body ∧ x.length ≤ 100000) (q : (Txt.slice x (some 3) (some 5) != Str.ofString " \"") = false) (hy : y = ⟨(p257 (x.cps.toList.drop 5)).toArray⟩) : y = told d e body := by
  rw [slice_35 h.1, open_eq] at q
  have q' : #[d, e] = #[32, 34] := by simpa using q
  have q'' : d = 32 ∧ e = 34 := by simpa using q'
  unfold told
  rw [if_pos q'', hy, h.1]
  rfl
end Mine
namespace Mine
/-- the numbers that the law adds up for a place: those of the first j -/
def fsel (sz : Int) (ns : List Int) (p : Int) (n : Nat) : Nat → List Int
  | 0 => []
  | j + 1 => fsel sz ns p n j ++ (if Builtin.bitAnd (0 + (j : Int)) n = 0 + (j : Int) then [ns.getD ((p - (0 + (j : Int))).fmod sz).toNat 0] else [])
def fodd (sz : Int) (ns : List Int) (p : Int) (n : Nat) : Prop := (fsel sz ns p n (n + 1)).sum.fmod 2 = 1
/-- the first odd place from i on, of k that are left -/
def fofrom (sz : Int) (ns : List Int) (n : Nat) : Nat → Int → Int
  | 0, i => i
  | k + 1, i => if (fsel sz ns i n (n + 1)).sum.fmod 2 = 1 then i else fofrom sz ns n k (i + 1)
theorem fsel_yes {sz : Int} {ns : List Int} {p : Int} {n j : Nat} {ys : List Value} {t : Tok} (h : IntsAre ys (fsel sz ns p n j)) (hb : Builtin.bitAnd (0 + (j : Int)) n = 0 + (j : Int)) :
    IntsAre (ys ++ [Value.int (ns.getD ((p - (0 + (j : Int))).fmod sz).toNat 0) t]) (fsel sz ns p n (j + 1)) := by
  rw [fsel, if_pos hb]
  exact h.append (.cons _ _ .nil)
theorem fsel_no {sz : Int} {ns : List Int} {p : Int} {n j : Nat} {ys : List Value} (h : IntsAre ys (fsel sz ns p n j)) (hb : Builtin.bitAnd (0 + (j : Int)) n ≠ 0 + (j : Int)) :
    IntsAre ys (fsel sz ns p n (j + 1)) := by
  rw [fsel, if_neg hb, List.append_nil]
  exact h
theorem fo_yes {sz : Int} {ns : List Int} {n k : Nat} {i : Int} (h : (fsel sz ns i n (n + 1)).sum.fmod 2 = 1) : fofrom sz ns n (k + 1) i = i := by
  rw [fofrom]; exact if_pos h
theorem fo_no {sz : Int} {ns : List Int} {n k : Nat} {i : Int} (h : (fsel sz ns i n (n + 1)).sum.fmod 2 ≠ 1) : fofrom sz ns n (k + 1) i = fofrom sz ns n k (i + 1) := by
  rw [fofrom]; exact if_neg h
end Mine
namespace Mine
open PySem.Spec
abbrev rangeIt (i : Int) (k : Nat) : Obj := { cls := .type "range_iterator", dict := none, data := .fields #[rawInt i, rawInt (k : Int), rawInt 1], slots := #[] }
section
variable {prog : Program} {w : World} {A : Around} {E : Value → Shared → Prop} {s : Shared} {env : Env} {h₀ : Heap} {L : Addr} {x : Str} {px : Pos} {body : List Stmt} {Q : Flow → Shared → Prop}
theorem forLoop_one {R : Result → Shared → Prop} {target : Expr} {it : Value} (ht : ∀ v, letOwnedTupleGo target it v = pure ()) (h : wpAny (model prog w) A (pyNext it) (fun r s₁ => match r with
      | none => R (.ok .next) s₁
      | some v => wpAny (model prog w) A (assign target env v) (fun _ s₂ => wpAny (model prog w) A (execs body env) (fun f s₃ => match f with
          | .next | .cont => codeAny (model prog w) A (.forLoop target it body [] env) R s₃
          | .brk => R (.ok .next) s₃
          | .ret v => R (.ok (.ret v)) s₃) (notedBy (model prog w) A env fun e s' => R (.error e) s') s₂) (notedBy (model prog w) A env fun e s' => R (.error e) s') s₁) (notedBy (model prog w) A env fun e s' => R (.error e) s') s) : codeAny (model prog w) A (.forLoop target it body [] env) R s := by
  refine codeAny_of_tree ?_
  show wpAny _ _ ((forTurn target it body [] env).onRaise (fun x => do noteFrame x env; theTreesLotGoes x)) _ _ s
  refine wpAny_noted ?_
  simp only [forTurn]
  refine wpAny_bind (wpAny_standAt (wpAny_bind (wpAny_onRaise (wpAny_mono h (fun r s₁ h₁ => ?_) fun _ _ h' => wpAny_standAt h'))))
  cases r with
  | none => exact wpAny_pure ⟨rfl, codeAny_block (wpAny_execs_nil h₁)⟩
  | some v =>
    refine wpAny_bind (wpAny_of_eq (ht v) ?_)
    refine wpAny_bind (wpAny_mono h₁ (fun _ s₂ h₂ => wpAny_bind (wpAny_mono h₂ (fun f s₃ h₃ => ?_) fun _ _ h' => h')) fun _ _ h' => h')
    cases f with
    | next => exact wpAny_pure ⟨rfl, h₃⟩
    | cont => exact wpAny_pure ⟨rfl, h₃⟩
    | brk => exact wpAny_pure h₃
    | ret v => exact wpAny_pure h₃
def ForRest (prog : Program) (w : World) (A : Around) (env : Env) (I : Addr) (x : Str) (px : Pos) (body : List Stmt) (Q : Flow → Shared → Prop) (E : Value → Shared → Prop) (_i : Int) (_k : Nat) (s : Shared) : Prop :=
  codeAny (model prog w) A (.forLoop (.Name x px) (.ref I) body [] env) (fun r s' => match r with | .ok f => Q f s' | .error e => cameBackBy (model prog w) A env E e s') s
def ForPost (prog : Program) (w : World) (A : Around) (env : Env) (I : Addr) (x : Str) (px : Pos) (body : List Stmt) (Q : Flow → Shared → Prop) (E : Value → Shared → Prop) (i : Int) (k : Nat) (f : Flow) (s : Shared) : Prop :=
  match f with
  | .next | .cont => ForRest prog w A env I x px body Q E i k s
  | .brk => Q .next s
  | .ret v => Q (.ret v) s
def ForIn (prog : Program) (w : World) (A : Around) (env : Env) (x : Str) (px : Pos) (body : List Stmt) (Q : Flow → Shared → Prop) (E : Value → Shared → Prop) (it : Value) (s : Shared) : Prop :=
  ∃ I, it = .ref I ∧ ForRest prog w A env I x px body Q E 0 0 s
theorem For_in {iter : Expr} {pos : Pos} (h : wpAny (model prog w) A (eval iter env) (fun xv s₁ => wpAny (model prog w) A (pyIter xv) (fun it s₂ => ForIn prog w A env x px body Q E it s₂) E s₁) E s)
    (hs : ∀ x, foldedSetIterable iter env x = pure x := by intro _; rfl) : wpAny (model prog w) A (exec (.For (.Name x px) iter body [] pos) env) Q E s := by
  refine wpAny_For (wpAny_mono h (fun xv s₁ h₁ => wpAny_mono h₁ (fun it s₂ h₂ => ?_) fun _ _ e => e) fun _ _ e => e) hs
  obtain ⟨I, rfl, h⟩ := h₂
  exact h
theorem news_same {h h' : Heap} {I : Addr} {news : List (Addr × Obj)} (N : News h₀ L h news) (hs : ∀ b o, b ≠ I → h.get? b = some o → h'.get? b = some o) (off : ∀ p ∈ news, p.1 ≠ I) : News h₀ L h' news :=
  fun p hp => ⟨hs _ _ (off p hp) (N p hp).1, (N p hp).2⟩
theorem fr_same {h h' : Heap} {I : Addr} {m : Str → Option Value} (F : Fr h₀ L h m) (hs : ∀ b o, b ≠ I → h.get? b = some o → h'.get? b = some o) (hL : I ≠ L) (hI : h₀.get? I = none) : Fr h₀ L h' m :=
  ⟨F.ns.at' fun o e => hs L o (Ne.symm hL) e, fun b o e => hs b o (fun q => by rw [q, hI] at e; cases e) (F.keep b o e), F.above⟩
theorem ForRest.succ {I : Addr} {i : Int} {k : Nat} {m : Str → Option Value} {led : List (Addr × Obj)} (hE : PassesOwn (model prog w) A env E) (F : Fr h₀ L s.heap m) (N : News h₀ L s.heap led) (hm : (I, rangeIt i (k + 1)) ∈ led) (rest : List (Addr × Obj)) (sub : ∀ p ∈ rest, p ∈ led) (off : ∀ p ∈ rest, p.1 ≠ I)
    (h : ∀ h' t tk, Fr h₀ L h' m → News h₀ L h' ((I, rangeIt (i + 1) k) :: rest) → wpAny (model prog w) A (storeName env x (.int i t)) (fun _ s₂ => wpAny (model prog w) A (execs body env) (ForPost prog w A env I x px body Q E (i + 1) k) E s₂) E { s with heap := h', toks := tk }) :
    ForRest prog w A env I x px body Q E i (k + 1) s := by
  have hI := N _ hm
  refine forLoop_one (by intro _; rfl) ?_
  refine wpAny_pyNext_range_item (x := i) (left := ((k + 1 : Nat) : Int)) (step := 1) hI.1 (by omega) fun h' hit hs => ?_
  have hs' : ∀ b o, b ≠ I → s.heap.get? b = some o → h'.get? b = some o := fun b o hb e => hs.extBut b o hb e
  have F' := fr_same F hs' hI.2.1 hI.2.2
  have N' : News h₀ L h' ((I, rangeIt (i + 1) k) :: rest) := fun p hp => by
    rcases List.mem_cons.mp hp with rfl | hp
    · have e : (((k + 1 : Nat) : Int) - 1) = (k : Int) := by omega
      rw [e] at hit
      exact ⟨hit, hI.2⟩
    · exact news_same (fun p hp => N p (sub p hp)) hs' off p hp
  refine wpAny_passesOwn hE (wpAny_assign_Name (wpAny_mono (h h' _ _ F' N') (fun _ s₂ h₂ => ?_) fun _ _ e => e))
  refine wpAny_passesOwn hE (wpAny_mono h₂ (fun f s₃ h₃ => ?_) fun _ _ e => e)
  cases f <;> exact h₃
theorem ForRest.zero {I : Addr} {i : Int} {m : Str → Option Value} {led : List (Addr × Obj)} (hh : A.handled = none) (F : Fr h₀ L s.heap m) (N : News h₀ L s.heap led) (hm : (I, rangeIt i 0) ∈ led) (rest : List (Addr × Obj)) (sub : ∀ p ∈ rest, p ∈ led) (off : ∀ p ∈ rest, p.1 ≠ I)
    (h : ∀ h', Fr h₀ L h' m → News h₀ L h' rest → Q .next { s with heap := h' }) :
    ForRest prog w A env I x px body Q E i 0 s := by
  have hI := N _ hm
  refine forLoop_one (by intro _; rfl) ?_
  refine wpAny_pyNext_range_end hh (x := i) (left := ((0 : Nat) : Int)) (step := 1) hI.1 (by omega) fun h' hs => ?_
  have hs' : ∀ b o, b ≠ I → s.heap.get? b = some o → h'.get? b = some o := fun b o hb e => hs b o hb e
  exact h h' (fr_same F hs' hI.2.1 hI.2.2) (news_same (fun p hp => N p (sub p hp)) hs' off)
theorem iter_rangeF {r : Addr} {a b : Int} {t u v : Tok} {n : Nat} {m : Str → Option Value} {news : List (Addr × Obj)} (F : Fr h₀ L s.heap m) (N : News h₀ L s.heap news) (hr : IsRange s.heap r a b 1 t u v) (hsmall : Builtin.Range.small a b 1 = true) (hn : Builtin.Range.rangeSize a b 1 = (n : Int))
    (h : ∀ I h', Fr h₀ L h' m → News h₀ L h' ((I, rangeIt a n) :: news) → (∀ p ∈ news, p.1 < I) → ForRest prog w A env I x px body Q E a n { s with heap := h' }) :
    wpAny (model prog w) A (pyIter (.ref r)) (fun it s₂ => ForIn prog w A env x px body Q E it s₂) E s := by
  refine wpAny_pyIter_range hr hsmall ⟨_, rfl, h _ _ (F.push _) (fun p hp => ?_) fun p hp => Heap.lt_size (N p hp).1⟩
  rcases List.mem_cons.mp hp with rfl | hp
  · refine ⟨?_, ?_, ?_⟩
    · rw [hn]; exact Heap.get?_push_size _ rfl
    · exact Ne.symm (Nat.ne_of_lt F.ns.lt)
    · cases e : h₀.get? s.heap.objs.size with
      | none => rfl
      | some o => exact absurd (Heap.lt_size (F.keep _ _ e)) (Nat.lt_irrefl _)
  · exact ⟨Heap.get?_push_of_some _ (N p hp).1, (N p hp).2⟩
def ForEnd {σ : Type} (h₀ : Heap) (L I : Addr) (Led : σ → List (Addr × Obj)) (J : Int → Nat → σ → (Str → Option Value) → Prop) (Q : Flow → Shared → Prop) (s : Shared) (i : Int) (k : Nat) (f : Flow) (s₃ : Shared) : Prop :=
  match f with
  | .next | .cont => ∃ (c' : σ) (h' : Heap) (tk : Nat) (m' : Str → Option Value) (news' : List (Addr × Obj)), s₃ = { s with heap := h', toks := tk } ∧ Fr h₀ L h' m' ∧ News h₀ L h' news' ∧ (∀ p ∈ (I, rangeIt i k) :: Led c', p ∈ news') ∧ (∀ p ∈ Led c', p.1 ≠ I) ∧ J i k c' m'
  | .brk => Q .next s₃
  | .ret v => Q (.ret v) s₃
theorem ForRest.inv {σ : Type} {I : Addr} (Led : σ → List (Addr × Obj)) (J : Int → Nat → σ → (Str → Option Value) → Prop) (hh : A.handled = none) (hE : PassesOwn (model prog w) A env E)
    (turn : ∀ i k c m h t tk, J i (k + 1) c m → (∀ p ∈ Led c, p.1 ≠ I) → Fr h₀ L h m → News h₀ L h ((I, rangeIt (i + 1) k) :: Led c) →
      wpAny (model prog w) A (storeName env x (.int i t)) (fun _ s₂ => wpAny (model prog w) A (execs body env) (ForEnd h₀ L I Led J Q s (i + 1) k) E s₂) E { s with heap := h, toks := tk })
    (done : ∀ i c m h tk, J i 0 c m → Fr h₀ L h m → News h₀ L h (Led c) → Q .next { s with heap := h, toks := tk }) :
    ∀ (k : Nat) (i : Int) (c : σ) (m : Str → Option Value) (h : Heap) (tk : Nat), J i k c m → (∀ p ∈ Led c, p.1 ≠ I) → Fr h₀ L h m → News h₀ L h ((I, rangeIt i k) :: Led c) → ForRest prog w A env I x px body Q E i k { s with heap := h, toks := tk } := by
  intro k
  induction k with
  | zero =>
    intro i c m h tk hJ off F N
    exact ForRest.zero (s := { s with heap := h, toks := tk }) hh F N (List.Mem.head _) (Led c) (fun p hp => List.Mem.tail _ hp) off fun h' F' N' => done i c m h' tk hJ F' N'
  | succ k ih =>
    intro i c m h tk hJ off F N
    refine ForRest.succ (s := { s with heap := h, toks := tk }) hE F N (List.Mem.head _) (Led c) (fun p hp => List.Mem.tail _ hp) off fun h' t tk' F' N' => ?_
    refine wpAny_mono (turn i k c m h' t tk' hJ off F' N') (fun _ s₂ h₂ => wpAny_mono h₂ (fun f s₃ h₃ => ?_) fun _ _ e => e) fun _ _ e => e
    cases f with
    | next =>
      obtain ⟨c', h'', tk'', m', news', rfl, F₃, N₃, sub, off', hJ'⟩ := h₃
      exact ih (i + 1) c' m' h'' tk'' hJ' off' F₃ (fun p hp => N₃ p (sub p hp))
    | cont =>
      obtain ⟨c', h'', tk'', m', news', rfl, F₃, N₃, sub, off', hJ'⟩ := h₃
      exact ih (i + 1) c' m' h'' tk'' hJ' off' F₃ (fun p hp => N₃ p (sub p hp))
    | brk => exact h₃
    | ret v => exact h₃
theorem ForEnd.next {σ : Type} {I : Addr} {Led : σ → List (Addr × Obj)} {J : Int → Nat → σ → (Str → Option Value) → Prop} {i : Int} {k : Nat} (c' : σ) {h' : Heap} {tk : Nat} {m' : Str → Option Value} {news' : List (Addr × Obj)} (F : Fr h₀ L h' m') (N : News h₀ L h' news')
    (sub : ∀ p ∈ (I, rangeIt i k) :: Led c', p ∈ news') (off : ∀ p ∈ Led c', p.1 ≠ I) (hJ : J i k c' m') : ForEnd h₀ L I Led J Q s i k .next { s with heap := h', toks := tk } := ⟨c', h', tk, m', news', rfl, F, N, sub, off, hJ⟩
open LCg LCt in
theorem compT_inv {m : Str → Option Value} {ct elt : Expr} {scope : Scope} {cl : List (Str × Addr)} {S : List (Addr × Obj) → Prop} {P : Nat → Value → Prop} {Fin : List Value → List (Addr × Obj) → Prop} {n : Nat} {news : List (Addr × Obj)} (J : Nat → List Value → Prop)
    (turn : ∀ i ys v I oI C oC D m₂ h tk (E' : Value → Shared → Prop), i < n → J i ys → P i v → NsObj oC m₂ → m₂ x = some v → Fr h₀ L h m → News h₀ L h ((I, oI) :: (C, oC) :: (D, lst ys) :: news) → Off3 I C D news → ((@Ne Nat I C) ∧ (@Ne Nat I D) ∧ (@Ne Nat C D)) →
      wpAny (model prog w) A (isTrue ct (compEnvC scope cl C env) (eval ct (compEnvC scope cl C env))) (fun ok s' => if ok = true then
        wpAny (model prog w) A (eval elt (compEnvC scope cl C env)) (CompEnd h₀ L m { s with heap := h, toks := tk } I oI C oC D (lst ys) S (fun y news' => news' = news ∧ J (i + 1) (ys ++ [y]))) E' s'
        else CompEnd h₀ L m { s with heap := h, toks := tk } I oI C oC D (lst ys) S (fun _ news' => news' = news ∧ J (i + 1) ys) Value.none s') E' { s with heap := h, toks := tk })
    (done : ∀ ys, J n ys → Fin ys news) :
    ∀ k i ys, i + k = n → J i ys → CompRestT prog w A h₀ L m env ct elt x scope cl s S P Fin k i ys news := by
  intro k
  induction k with
  | zero =>
    intro i ys hi hJ
    have : i = n := by omega
    subst this
    exact CompRestT.zero (done ys hJ)
  | succ k ih =>
    intro i ys hi hJ
    refine CompRestT.succ fun v I oI C oC D m₂ h tk E' hP hC hv F N off ne => ?_
    have up : ∀ (rest rest' : Value → List (Addr × Obj) → Prop) (y : Value) (s₂ : Shared), (∀ news', rest y news' → rest' y news') → CompEnd h₀ L m { s with heap := h, toks := tk } I oI C oC D (lst ys) S rest y s₂ → CompEnd h₀ L m { s with heap := h, toks := tk } I oI C oC D (lst ys) S rest' y s₂ := by
      rintro rest rest' y s₂ hr ⟨h', tk', news', e, F', N', off', hS, r⟩
      exact ⟨h', tk', news', e, F', N', off', hS, hr _ r⟩
    refine wpAny_mono (turn i ys v I oI C oC D m₂ h tk E' (by omega) hJ hP hC hv F N off ne) (fun ok s' hq => ?_) fun _ _ e => e
    cases ok with
    | true =>
      simp only [if_true] at hq ⊢
      refine wpAny_mono hq (fun y s₂ h₂ => ?_) fun _ _ e => e
      refine up _ _ y s₂ (fun news' hr => ?_) h₂
      obtain ⟨rfl, hJ'⟩ := hr
      exact ih (i + 1) _ (by omega) hJ'
    | false =>
      simp only [Bool.false_eq_true, if_false] at hq ⊢
      refine up _ _ _ s' (fun news' hr => ?_) hq
      obtain ⟨rfl, hJ'⟩ := hr
      exact ih (i + 1) _ (by omega) hJ'
open LCg in
theorem comp_inv {m : Str → Option Value} {elt : Expr} {scope : Scope} {cl : List (Str × Addr)} {S : List (Addr × Obj) → Prop} {P : Nat → Value → Prop} {Fin : List Value → List (Addr × Obj) → Prop} {n : Nat} {news : List (Addr × Obj)} (J : Nat → List Value → Prop)
    (turn : ∀ i ys v I oI C oC D m₂ h tk (E' : Value → Shared → Prop), i < n → J i ys → P i v → NsObj oC m₂ → m₂ x = some v → Fr h₀ L h m → News h₀ L h ((I, oI) :: (C, oC) :: (D, lst ys) :: news) → Off3 I C D news → ((@Ne Nat I C) ∧ (@Ne Nat I D) ∧ (@Ne Nat C D)) →
        wpAny (model prog w) A (eval elt (compEnvC scope cl C env)) (CompEnd h₀ L m { s with heap := h, toks := tk } I oI C oC D (lst ys) S (fun y news' => news' = news ∧ J (i + 1) (ys ++ [y]))) E' { s with heap := h, toks := tk })
    (done : ∀ ys, J n ys → Fin ys news) :
    ∀ k i ys, i + k = n → J i ys → CompRest prog w A h₀ L m env elt x scope cl s S P Fin k i ys news := by
  intro k
  induction k with
  | zero =>
    intro i ys hi hJ
    have : i = n := by omega
    subst this
    exact CompRest.zero (done ys hJ)
  | succ k ih =>
    intro i ys hi hJ
    refine CompRest.succ fun v I oI C oC D m₂ h tk E' hP hC hv F N off ne => ?_
    refine wpAny_mono (turn i ys v I oI C oC D m₂ h tk E' (by omega) hJ hP hC hv F N off ne) (fun y s₂ h₂ => ?_) fun _ _ e => e
    obtain ⟨h', tk', news', e, F', N', off', hS, rfl, hJ'⟩ := h₂
    exact ⟨h', tk', _, e, F', N', off', hS, ih (i + 1) _ (by omega) hJ'⟩
end
/-- a mark at which the walk stops -/
def Hold (p : Prop) : Prop := p
theorem Hold.intro {p : Prop} (h : Hold p) : p := h
theorem Hold.out {p : Prop} (h : p) : Hold p := h
theorem unit_le {un k : Nat} (h : un + 60 < cLine) (hk : k ≤ 50) : un + k + 8 < cLine := by omega
theorem unit_lt {un k : Nat} (h : un + 60 < cLine) (hk : k ≤ 50) : un + k < cLine := by omega
theorem depth_le {dp k : Nat} (h : dp + 60 < recursionLimit) (hk : k ≤ 50) : dp + k + 1 < recursionLimit := by omega
theorem allNe_of {d e : Addr} {l : List (Addr × Obj)} (h : AllLt e l) (hde : e ≤ d) : ∀ p ∈ l, p.1 ≠ d := fun p hp => Nat.ne_of_lt (Nat.lt_of_lt_of_le (kst_ltOf h p hp) hde)
theorem allLt_le {d e : Addr} {l : List (Addr × Obj)} (h : AllLt e l) (hde : e ≤ d) : AllLt d l := allLt_of fun p hp => Nat.lt_of_lt_of_le (kst_ltOf h p hp) hde
end Mine
namespace Mine
set_option maxRecDepth 100000 in
set_option maxHeartbeats 8000000 in
open_top hd for PySem.Challenge.rw_pm0003_02
end Mine
namespace Mine
def ApInv (x : Int) (n : Int) (v : Array UInt8) : Prop := 0 ≤ n ∧ word n.toNat ++ v.toList = word x.natAbs ∧ ∃ k, n < 16 ^ k ∧ v.size + k ≤ 10
theorem ap_start {x : Int} (h : -(2^40) < x ∧ x < 2^40) : ApInv x (if x < 0 then -x else x) #[] := by
  refine ⟨by omega, ?_, 10, by omega, by decide⟩
  have : (if x < 0 then -x else x).toNat = x.natAbs := by omega
  rw [this]; simp
theorem ap_pick_nat : ∀ k : Nat, k < 16 → KBy.picked #[65, 66, 67, 68, 69, 70, 71, 72, 73, 74, 75, 76, 77, 78, 79, 80] (some (k : Int)) (some ((k : Int) + 1)) = #[UInt8.ofNat (65 + k)] := by decide +kernel
theorem ap_pick {n : Int} (h : 0 ≤ n) : KBy.picked #[65, 66, 67, 68, 69, 70, 71, 72, 73, 74, 75, 76, 77, 78, 79, 80] (some (n.fmod 16)) (some (n.fmod 16 + 1)) = #[UInt8.ofNat (65 + n.toNat % 16)] := by
  obtain ⟨k, rfl⟩ := Int.eq_ofNat_of_zero_le h
  have := ap_pick_nat (k % 16) (Nat.mod_lt _ (by decide))
  have e : ((k : Int)).fmod 16 = ((k % 16 : Nat) : Int) := by rw [Int.fmod_eq_emod_of_nonneg _ (by decide)]; omega
  rw [e, this]; simp
theorem ap_add {x n : Int} {v : Array UInt8} (h : ApInv x n v) : (KBy.picked #[65, 66, 67, 68, 69, 70, 71, 72, 73, 74, 75, 76, 77, 78, 79, 80] (some (n.fmod 16)) (some (n.fmod 16 + 1))).size + v.size ≤ 16777216 := by
  rw [ap_pick h.1]
  obtain ⟨_, _, k, _, h⟩ := h
  show 1 + v.size ≤ _
  omega
theorem ap_turn {x n : Int} {v : Array UInt8} (h : ApInv x n v) (h0 : n ≠ 0) : ApInv x (n.fdiv 16) (KBy.picked #[65, 66, 67, 68, 69, 70, 71, 72, 73, 74, 75, 76, 77, 78, 79, 80] (some (n.fmod 16)) (some (n.fmod 16 + 1)) ++ v) := by
  rw [ap_pick h.1]
  obtain ⟨h1, h2, k, h3, h4⟩ := h
  rw [Int.fdiv_eq_ediv_of_nonneg _ (by decide)]
  refine ⟨by omega, ?_, ?_⟩
  · have e : (n / 16).toNat = n.toNat / 16 := by omega
    rw [e, ← h2, word_step (n := n.toNat) (by omega)]
    simp
  · cases k with
    | zero => simp at h3; omega
    | succ k =>
      refine ⟨k, ?_, ?_⟩
      · rw [Int.pow_succ] at h3; omega
      · simp; omega
theorem ap_less {x n : Int} {v : Array UInt8} (h : ApInv x n v) (h0 : n ≠ 0) : (n.fdiv 16).toNat < n.toNat := by
  have h1 := h.1
  rw [Int.fdiv_eq_ediv_of_nonneg _ (by decide)]
  omega
theorem ap_done {x n : Int} {v : Array UInt8} (h : ApInv x n v) (h0 : n = 0) : (word x.natAbs).toArray = v := by
  subst h0
  obtain ⟨_, h2, _⟩ := h
  rw [← h2]
  simp [word_zero]
local macro_rules | `(tactic| walk_at "subscriptTail Name Slice bytes ref") => `(tactic| (k_here; (with_reducible show wpAny _ _ (subscriptTail _ (Expr.Slice _ _ none _) (Value.bytes _ _) (Value.ref _)) _ _ _); (with_reducible rename Fr _ _ _ _ => F'); (with_reducible rename News _ _ _ _ => N'); (refine KBc.slice_K (s := ⟨_, _, _, _, _⟩) F' N' rfl (by constructor) (by constructor) (by decide) ?_); intro _ _ _ _ _ _))
local macro_rules | `(tactic| walk_at "binaryOp Add bytes bytes") => `(tactic| (k_here; (refine KBy.add_bytes (ap_add (by assumption)) ?_); intro _ _))
set_option maxRecDepth 100000 in
set_option maxHeartbeats 8000000 in
theorem int2ap {w : World} {h : Heap} {mg mb : Str → Option Value} (news : List (Addr × Obj)) (x : Int) (t : Tok) :
   CbClaim PySem.Challenge.rw_pm0003_02.row.prog w (hd.heap_39 w.params) hd.view_39 (looseW hd.view_39 []) (ExcName.means h) mg mb 21 news [] (-(2^40) < x ∧ x < 2^40) [.int x t] (fun t => .bytes (word x.natAbs).toArray t) := by
  k_fill
  w_top off
  unfold CbClaim CbLists CbRet
  intros
  rename_i hret
  k_with "state" => first | exact ap_start (by assumption) | exact ap_turn (by assumption) (by assumption)
  k_with "measure" => exact ap_less (by assumption) (by assumption)
  k_with "exec While Name cons nil" => k_while (fun _ n v => ApInv x n v) (fun _ n _ => n.toNat) "num" "val"
  refine wpAny_call ?_
  k_dflt cell_enter
  k_steps
  all_goals (rename ApInv _ _ _ => hI; rename _ = (0:Int) => h0; rw [← ap_done hI h0]; exact hret _ _ _ (by assumption) (by assumption))
end Mine
namespace Mine
set_option maxRecDepth 100000 in
set_option maxHeartbeats 8000000 in
theorem parse2 {w : World} {h : Heap} {mg mb : Str → Option Value} (news : List (Addr × Obj)) (x : Str) (t : Tok) (d e : Nat) (body : List Nat) :
   CbClaim PySem.Challenge.rw_pm0003_02.row.prog w (hd.heap_39 w.params) hd.view_39 (looseW hd.view_39 []) (ExcName.means h) mg mb 53 news [] (x.cps.toList = 50 :: 53 :: 55 :: d :: e :: body ∧ x.length ≤ 100000) [.str x t] (fun t => .str (told d e body) t) := by
  k_fill
  w_top off
  unfold CbClaim CbLists CbRet
  intros
  rename_i hB _ hK hN hT hk hx hdp hun hret
  k_with_none
  k_with "exec While Compare cons nil" => k_while (fun _ d i => 5 ≤ i ∧ i ≤ (x.length : Int) ∧ (d.length : Int) ≤ i ∧ x.length ≤ 100000 ∧ PEq x d i) (fun _ d i => x.length - i.toNat) "dirname" "i"
  k_with "state" => first | exact p_start hx | exact p_pair (by assumption) (by assumption) (by assumption) (by assumption) (by assumption) (by assumption) (by assumption) (by assumption) (by assumption) | exact p_other (by assumption) (by assumption) (by assumption) (by assumption) (by assumption) (by assumption) (by assumption)
  refine wpAny_call ?_
  k_dflt cell_enter
  k_steps
  all_goals first
    | exact absurd (p_code hx (by assumption)) id
    | exact cb_retS hret (p_none hx (by assumption)) (by assumption) (by assumption)
    | (refine cb_retS hret (p_told hx (by assumption) ?_) (by assumption) (by assumption); first
      | exact p_out (by assumption) (by assumption) (by assumption)
      | exact p_brk1 (by assumption) (by assumption) (by assumption) (by assumption) (by assumption)
      | exact p_brk2 (by assumption) (by assumption) (by assumption) (by assumption) (by assumption) (by assumption))
end Mine
namespace Mine
local macro_rules | `(tactic| cell_enter) => `(tactic| (refine' code_defC ?k1 ?k2 ?k3 ?k4 ?k5 ?kA ?kF ?kK ?k6 ?k7 ?k8 ?k9 ?kB ?kD ?_ ?c2 ?c3 ?c4; (case kA => exact rfl); (case kF => exact rfl); (case kK => assumption); (case k1 => k_asm); (case k2 => k_asm); (case k3 => k_asm); (case k4 => k_asm); (case k5 => k_asm); (case k6 => k_is); (case k7 => k_is); (case k8 => ktr_room); (case k9 => exact BindsTo.of_eq rfl); (case kB => exact rfl); (case kD => decide +kernel); (case c2 => exact rfl); (case c3 => exact rfl); (case c4 => exact rfl); k_whole; intro g' L' h' tk' cells' FG' F' N' Y' B' X' T' l1; (try k_lt l1); k_cells Y'; (try simp only [List.cons_append, List.nil_append] at N'); (try dsimp only); (try k_lift B'); (try k_fold)))
theorem lw_in (x : Int) (k : Nat) : KBa.In (lawDigits x k) := fun n h => by have := lawDigits_in x k n h; omega
theorem lw_absurd {x : Int} (j k : Nat) (hjk : k ≤ j) (h1 : 16 ^ j ≤ x) (h2 : ¬ 16 ^ k ≤ x) : False := by
  have h3 : (16 : Nat) ^ k ≤ 16 ^ j := Nat.pow_le_pow_right (by decide) hjk
  have e1 : ((16 ^ j : Nat) : Int) = 16 ^ j := by simp
  have e2 : ((16 ^ k : Nat) : Int) = 16 ^ k := by simp
  omega
local macro_rules | `(tactic| walk_at "CompEnd") => `(tactic| (k_here; k_dflt (first
  | exact absurd (lw_absurd (Int.toNat 2) (Int.toNat 1) (by decide) (by assumption) (by assumption)) id
  | exact absurd (lw_absurd (Int.toNat 1) (Int.toNat 0) (by decide) (by assumption) (by assumption)) id
  | (refine LCg.CompEnd.intro (by assumption) (by assumption) _ (fun p hp => hp) (by with_unfolding_all assumption) (by lcg_src) ?_))))
local macro_rules | `(tactic| walk_at "call type:bytes cons nil") => `(tactic| (k_here; (with_reducible show wpAny _ _ (call (Value.type "bytes") [Value.ref _]) _ _ _); k_dflt (refine' KBa.make_K ?kbaF ?kbaN ?kbah ?kbal ?kbai ?kbar ?kban ?_; (case kbaF => k_asm); (case kbaN => k_asm); (case kbah => rfl); (case kbal => exact isList_of (by k_asm) (by k_mem)); (case kbai => first | l_ints | l_intsW | exact IntsAre.nil); (case kbar => first | exact lw_in _ 3 | exact lw_in _ 2 | exact lw_in _ 1 | exact lw_in 0 0); (case kban => first | decide | kba_size)); intro _ _ _ F' N' kbaIn))
set_option maxRecDepth 100000 in
set_option maxHeartbeats 8000000 in
theorem lword2 {w : World} {h : Heap} {mg mb : Str → Option Value} (news : List (Addr × Obj)) (x : Int) (t : Tok) :
   CbClaim PySem.Challenge.rw_pm0003_02.row.prog w (hd.heap_39 w.params) hd.view_39 (looseW hd.view_39 []) (ExcName.means h) mg mb 58 news [] (0 ≤ x ∧ x < 4096) [.int x t] (fun t => .bytes (word x.natAbs).toArray t) := by
  k_fill
  w_top off
  unfold CbClaim CbLists CbRet
  intros
  rename_i hB _ hK hN hT hk hx hdp hun hret
  k_with_none
  refine wpAny_call ?_
  k_dflt cell_enter
  k_steps
  all_goals first
    | exact ret_y hret (lw_word hx.1 3 (by have := hx.2; omega) (.inr (by assumption))) (by assumption) (by assumption) (fun p hp => by simp [hp])
    | exact ret_y hret (lw_word hx.1 2 (by assumption) (.inr (by assumption))) (by assumption) (by assumption) (fun p hp => by simp [hp])
    | exact ret_y hret (lw_word hx.1 1 (by assumption) (.inr (by assumption))) (by assumption) (by assumption) (fun p hp => by simp [hp])
    | exact ret_y hret (lw_word hx.1 0 (by assumption) (.inl rfl)) (by assumption) (by assumption) (fun p hp => by simp [hp])
end Mine
namespace Mine
local macro_rules | `(tactic| cell_enter) => `(tactic| (refine' code_defC ?k1 ?k2 ?k3 ?k4 ?k5 ?kA ?kF ?kK ?k6 ?k7 ?k8 ?k9 ?kB ?kD ?_ ?c2 ?c3 ?c4; (case kA => exact rfl); (case kF => exact rfl); (case kK => assumption); (case k1 => k_asm); (case k2 => k_asm); (case k3 => k_asm); (case k4 => k_asm); (case k5 => k_asm); (case k6 => k_is); (case k7 => k_is); (case k8 => ktr_room); (case k9 => exact BindsTo.of_eq rfl); (case kB => exact rfl); (case kD => decide +kernel); (case c2 => exact rfl); (case c3 => exact rfl); (case c4 => exact rfl); k_whole; intro g' L' h' tk' cells' FG' F' N' Y' B' X' T' l1; (try k_lt l1); k_cells Y'; (try simp only [List.cons_append, List.nil_append] at N'); (try dsimp only); (try k_lift B'); (try k_fold)))
local macro_rules | `(tactic| walk_at "CompEnd") => `(tactic| (k_here; k_dflt (
  (refine LCg.CompEnd.intro (by assumption) (by assumption) _ (fun p hp => hp) (by with_unfolding_all assumption) (by lcg_src) ?_))))
local macro_rules | `(tactic| k_all) => `(tactic| assumption)
local macro_rules | `(tactic| walk_at "exec For Name Call cons nil") => `(tactic| (k_here; k_dflt (refine For_in ?_)))
local macro_rules | `(tactic| walk_at "pyIter ref") => `(tactic| (k_here; (with_reducible show wpAny _ _ (pyIter (Value.ref _)) (fun it s₂ => ForIn _ _ _ _ _ _ _ _ _ it s₂) _ _); (rename IsRange _ _ _ _ _ _ _ _ => rgX); k_dflt (refine' iter_rangeF ?k1 ?k2 rgX ?k3 ?k4 ?_; (case k1 => k_asm); (case k2 => k_asm); (case k3 => first | decide | exact small_one (by omega) (by omega) (by omega) (by omega)); (case k4 => first | rfl | exact rangeSize_nat _ _)); intro I' h' F' N' lt'; (have lt2' := lt'); (k_lt lt2')))
local macro_rules | `(tactic| walk_at "eval ListComp") => `(tactic| (k_here; k_dflt (refine LCt.ListComp_T (F₀ := by k_asm) (by with_unfolding_all rfl) (by decide) (by rfl) (by decide) (by rfl) ?_)))
local macro_rules | `(tactic| walk_at "ForEnd") => `(tactic| ((with_reducible show ForEnd _ _ _ _ _ _ _ _ _ (Flow.ret _) _); dsimp only [ForEnd]))
set_option maxRecDepth 100000 in
set_option maxHeartbeats 8000000 in
theorem fodd2 {w : World} {h : Heap} {mg mb : Str → Option Value} (news : List (Addr × Obj)) (n : Nat) (t : Tok) (l : Addr) (vs : List Value) (c : Nat) (ns : List Int) (hI : IntsAre vs ns) (hl : ns.length = 5) :
   CbClaim PySem.Challenge.rw_pm0003_02.row.prog w (hd.heap_39 w.params) hd.view_39 (looseW hd.view_39 []) (ExcName.means h) mg mb 63 ((l, listOf vs.toArray c) :: news) [] (n ≤ 63) [.ref l, .int n t] (fun t => .int (fofrom 5 ns n 5 0) t) := by
  k_fill
  w_top off
  unfold CbClaim CbLists CbRet
  intros
  rename_i hB _ hK hN hT hk hx hdp hun hret
  k_with_none
  refine wpAny_call ?_
  k_dflt cell_enter
  rename_i g' L' h' tk' FG' F' B' X' T' l1 o' o2' o3' d1' d2' d3' N'
  have kMark := kstMark
  have lA : AllLt L' news := l1.2
  k_steps
  rename_i I' h'' F'' N'' lt' lt2
  have nP : ∀ p ∈ news, p.1 ≠ L' + 1 + 1 + 1 := allNe_of lA (Nat.le_add_right _ 3)
  have hoff : ∀ o : Obj, ∀ p ∈ (L' + 1 + 1 + 1, o) :: (L' + 1 + 1, o2') :: (L' + 1, o3') :: (l, listOf vs.toArray c) :: news, p.1 ≠ I' := by
    intro o p hp
    rcases List.mem_cons.mp hp with rfl | hp
    · exact Nat.ne_of_lt lt2.1
    · exact Nat.ne_of_lt (lt' p (List.mem_cons_of_mem _ hp))
  refine ForRest.inv (h₀ := g') (L := L') (fun (o : Obj) => (L' + 1 + 1 + 1, o) :: (L' + 1 + 1, o2') :: (L' + 1, o3') :: (l, listOf vs.toArray c) :: news) (fun i k o m => (∃ v, o.data = .cell v) ∧ (0 ≤ i ∧ i + k = 5) ∧ fofrom 5 ns n k i = fofrom 5 ns n 5 0) rfl (by passes_own) ?turn ?done 5 0 o' _ _ _ ⟨⟨_, d1'⟩, ⟨by decide, by decide⟩, rfl⟩ (fun p hp => Nat.ne_of_lt (lt' p hp)) F'' N''
  case turn =>
    rintro i k o m h t tk ⟨⟨v, hv⟩, ⟨hi, hk5⟩, hfo⟩ off F₁ N₁
    k_steps
    rename IsRange _ _ _ _ _ _ _ _ => rg
    refine LCt.CompSrcT.range (n := n + 1) rfl (by assumption) (by assumption) rg (small_one (by decide) (by decide) (by omega) (by omega)) (by rw [rangeSize_nat]; omega) (by rw [sizeLine_eq]; omega) (fun g => ?_)
    refine compT_inv (n := n + 1) (fun j ys => IntsAre ys (fsel 5 ns i n j)) ?turn2 ?done2 (n + 1) 0 [] (by omega) IntsAre.nil
    case turn2 =>
      rintro j ys v I oI C oC D m₂ h tk E' hj hzs ⟨tv, rfl⟩ hC hv F N off ne
      k_steps
      all_goals first | exact fsel_yes hzs (by assumption) | exact fsel_no hzs (by assumption)
    case done2 =>
      rintro ys hzs
      k_steps
      · exact ret_i hret ((fo_yes (by assumption)).symm.trans hfo) (by assumption) (by assumption) (fun p hp => by simp only [List.mem_cons] at hp ⊢; simp [hp])
      · exact ForEnd.next _ (by assumption) (by assumption) (fun p hp => List.Mem.tail _ hp) (hoff _) ⟨⟨_, by assumption⟩, ⟨by omega, by omega⟩, (fo_no (by assumption)).symm.trans hfo⟩
  case done => 
    rintro i o m h tk ⟨⟨v, hv⟩, ⟨hi, hk5⟩, hfo⟩ F N
    k_steps
    exact ret_i hret (by rw [← hfo]; show (5 : Int) = i; omega) (by assumption) (by assumption) (fun p hp => by simp only [List.mem_cons] at hp ⊢; simp [hp])
end Mine
namespace Mine
section
variable {w : World} {h : Heap} {mg mb : Str → Option Value} {dp un : Nat} {gd : Option (List Code)} {cn : Str} {cs : Scope} {a : Addr} {ccd : Value} {cl : List (Str × Addr)} {outer : List Env} {A₀ : Around} {base h₀ : Heap} {L : Addr} {m : Str → Option Value} {s : Shared} {Q E : Value → Shared → Prop} {news : List (Addr × Obj)}
theorem int2ap_at {x : Int} {t : Tok} (B : Below A₀ base outer h₀) (F : Fr h₀ L s.heap m) (X : (hd.heap_39 w.params).In h₀) (N : News h₀ L s.heap news) (T : Top hd.view_39 (looseW hd.view_39 []) (ExcName.means h) mg mb h₀) (hk : cs.kind = .function)
    (hx : -(2^40) < x ∧ x < 2^40) (hd1 : dp + 1 < recursionLimit) (hu : un + 8 < cLine)
    (hq : ∀ (t : Tok) (h' : Heap) (tk' : Nat), Fr h₀ L h' m → News h₀ L h' news → Q (.bytes (word x.natAbs).toArray t) { s with heap := h', toks := tk' }) :
    wpAny (model PySem.Challenge.rw_pm0003_02.row.prog w) (ktrTop dp un gd cn cs L a ccd cl outer) (call (.ref 21) [.int x t]) Q E s :=
  int2ap news x t _ _ _ _ _ _ _ _ _ _ _ _ _ _ _ _ _ B F X N T hk hx hd1 hu hq
theorem lword_at {x : Int} {t : Tok} (B : Below A₀ base outer h₀) (F : Fr h₀ L s.heap m) (X : (hd.heap_39 w.params).In h₀) (N : News h₀ L s.heap news) (T : Top hd.view_39 (looseW hd.view_39 []) (ExcName.means h) mg mb h₀) (hk : cs.kind = .function)
    (hx : 0 ≤ x ∧ x < 4096) (hd1 : dp + 1 < recursionLimit) (hu : un + 8 < cLine)
    (hq : ∀ (t : Tok) (h' : Heap) (tk' : Nat), Fr h₀ L h' m → News h₀ L h' news → Q (.bytes (word x.natAbs).toArray t) { s with heap := h', toks := tk' }) :
    wpAny (model PySem.Challenge.rw_pm0003_02.row.prog w) (ktrTop dp un gd cn cs L a ccd cl outer) (call (.ref 58) [.int x t]) Q E s :=
  lword2 news x t _ _ _ _ _ _ _ _ _ _ _ _ _ _ _ _ _ B F X N T hk hx hd1 hu hq
theorem parse_at {x : Str} {t : Tok} {d e : Nat} {body : List Nat} (B : Below A₀ base outer h₀) (F : Fr h₀ L s.heap m) (X : (hd.heap_39 w.params).In h₀) (N : News h₀ L s.heap news) (T : Top hd.view_39 (looseW hd.view_39 []) (ExcName.means h) mg mb h₀) (hk : cs.kind = .function)
    (hx : x.cps.toList = 50 :: 53 :: 55 :: d :: e :: body ∧ x.length ≤ 100000) (hd1 : dp + 1 < recursionLimit) (hu : un + 8 < cLine)
    (hq : ∀ (t : Tok) (h' : Heap) (tk' : Nat), Fr h₀ L h' m → News h₀ L h' news → Q (.str (told d e body) t) { s with heap := h', toks := tk' }) :
    wpAny (model PySem.Challenge.rw_pm0003_02.row.prog w) (ktrTop dp un gd cn cs L a ccd cl outer) (call (.ref 53) [.str x t]) Q E s :=
  parse2 news x t d e body _ _ _ _ _ _ _ _ _ _ _ _ _ _ _ _ _ B F X N T hk hx hd1 hu hq
theorem fodd_at {l : Addr} {vs : List Value} {c : Nat} {ns : List Int} {n : Nat} {t : Tok} (B : Below A₀ base outer h₀) (F : Fr h₀ L s.heap m) (X : (hd.heap_39 w.params).In h₀) (N : News h₀ L s.heap news) (T : Top hd.view_39 (looseW hd.view_39 []) (ExcName.means h) mg mb h₀) (hk : cs.kind = .function)
    (hm : (l, listOf vs.toArray c) ∈ news) (hI : IntsAre vs ns) (hl : ns.length = 5) (hx : n ≤ 63) (hd1 : dp + 1 < recursionLimit) (hu : un + 8 < cLine)
    (hq : ∀ (t : Tok) (h' : Heap) (tk' : Nat), Fr h₀ L h' m → News h₀ L h' news → Q (.int (fofrom 5 ns n 5 0) t) { s with heap := h', toks := tk' }) :
    wpAny (model PySem.Challenge.rw_pm0003_02.row.prog w) (ktrTop dp un gd cn cs L a ccd cl outer) (call (.ref 63) [.ref l, .int n t]) Q E s :=
  fodd2 news n t l vs c ns hI hl _ _ _ _ _ _ _ _ _ _ _ _ _ _ _ _ _ B F X (fun p hp => N p (by rcases List.mem_cons.mp hp with rfl | hp; exact hm; exact hp)) T hk hx hd1 hu fun t h' tk' F' N' => hq t h' tk' F' (fun p hp => N' p (List.mem_cons_of_mem _ hp))
end
end Mine
namespace Mine
open PySem.Spec
abbrev S (l : List Nat) : Str := ⟨l.toArray⟩
theorem S_len (l : List Nat) : (S l).length = l.length := by show l.toArray.size = _; simp
theorem S_inj {a b : List Nat} (h : S a = S b) : a = b := by
  have := congrArg (fun x => x.cps.toList) h
  simpa using this
theorem S_add (a b : List Nat) : S a ++ S b = S (a ++ b) := by
  apply Str.ext'
  rw [Str.cps_append]; simp
inductive SAre : List Value → List (List Nat) → Prop
  | nil : SAre [] []
  | cons {l : List Nat} {t : Tok} {vs : List Value} {ls : List (List Nat)} : SAre vs ls → SAre (.str (S l) t :: vs) (l :: ls)
theorem SAre.length : ∀ {vs ls}, SAre vs ls → vs.length = ls.length
  | _, _, .nil => rfl
  | _, _, .cons h => by simp [h.length]
theorem SAre.append : ∀ {vs ls vs' ls'}, SAre vs ls → SAre vs' ls' → SAre (vs ++ vs') (ls ++ ls')
  | _, _, _, _, .nil, h => h
  | _, _, _, _, .cons g, h => .cons (g.append h)
theorem SAre.get : ∀ {vs ls}, SAre vs ls → ∀ (j : Nat) (v : Value), vs[j]? = some v → ∃ l t, v = .str (S l) t ∧ ls[j]? = some l
  | _, _, .nil, _, _, h => by simp at h
  | _, _, .cons (l := l) (t := t) g, 0, v, h => ⟨l, t, by simpa using h.symm, rfl⟩
  | _, _, .cons g, j + 1, v, h => by
    obtain ⟨l, t, e, e2⟩ := g.get j v (by simpa using h)
    exact ⟨l, t, e, by simpa using e2⟩
theorem SAre.strs : ∀ {vs ls}, SAre vs ls → StrsAre vs (ls.map S)
  | _, _, .nil => .nil
  | _, _, .cons g => .cons _ _ g.strs
theorem IntsAre.at' : ∀ {vs : List Value} {ns : List Int}, IntsAre vs ns → ∀ (j : Nat) (v : Value), vs[j]? = some v → ∃ t, v = .int (ns.getD j 0) t ∧ j < ns.length
  | _, _, .nil, _, _, h => by simp at h
  | _, _, .cons n t g, 0, v, h => ⟨t, by simpa using h.symm, by simp⟩
  | _, _, .cons n t g, j + 1, v, h => by
    obtain ⟨t, e, e2⟩ := IntsAre.at' g j v (by simpa using h)
    exact ⟨t, by simpa using e, by simpa using e2⟩
/-- pieces glued by a sign -/
def glue (c : List Nat) : List (List Nat) → List Nat
  | [] => []
  | [x] => x
  | x :: y :: r => x ++ c ++ glue c (y :: r)
theorem join_S (c : List Nat) : ∀ ls : List (List Nat), Str.join (S c) (ls.map S) = S (glue c ls)
  | [] => by show Str.empty = _; rfl
  | [x] => rfl
  | x :: y :: r => by
    have ih := join_S c (y :: r)
    show S x ++ S c ++ Str.join (S c) ((y :: r).map S) = _
    rw [ih, S_add, S_add]; rfl
theorem txtjoin_S (c : List Nat) (ls : List (List Nat)) : Txt.join (S c) (ls.map S) = S (glue c ls) := by
  rw [← join_S]
  exact StrLaws.glued_eq_join _ _
theorem glue_nil : ∀ ls : List (List Nat), glue [] ls = ls.flatten
  | [] => rfl
  | [x] => by simp [glue]
  | x :: y :: r => by simp [glue, glue_nil (y :: r)]
theorem glue_cons {c : List Nat} {x : List Nat} {r : List (List Nat)} (h : r ≠ []) : glue c (x :: r) = x ++ c ++ glue c r := by
  cases r with
  | nil => exact absurd rfl h
  | cons y r => rfl
/-- glued pieces that are free of the sign are told back -/
theorem glue_inj {c : Nat} : ∀ {ps qs : List (List Nat)}, ps ≠ [] → qs ≠ [] → (∀ p ∈ ps, c ∉ p) → (∀ q ∈ qs, c ∉ q) → glue [c] ps = glue [c] qs → ps = qs := by
  have cut : ∀ (a b r r' : List Nat), c ∉ a → c ∉ b → a ++ c :: r = b ++ c :: r' → a = b ∧ r = r' := by
    intro a
    induction a with
    | nil =>
      intro b r r' _ hb h
      cases b with
      | nil => simpa using h
      | cons x b => simp at h; simp at hb; exact absurd h.1 hb.1
    | cons y a ih =>
      intro b r r' ha hb h
      cases b with
      | nil => simp at h; simp at ha; exact absurd h.1.symm ha.1
      | cons x b =>
        simp only [List.cons_append, List.cons.injEq] at h
        simp only [List.mem_cons, not_or] at ha hb
        obtain ⟨e1, e2⟩ := ih b r r' ha.2 hb.2 h.2
        exact ⟨by rw [h.1, e1], e2⟩
  have none : ∀ (a b r : List Nat), c ∉ a → a = b ++ c :: r → False := by
    rintro a b r ha rfl
    exact ha (by simp)
  intro ps
  induction ps with
  | nil => intro qs h; exact absurd rfl h
  | cons p ps ih =>
    intro qs _ hq hp hqs h
    cases qs with
    | nil => exact absurd rfl hq
    | cons q qs =>
      by_cases h1 : ps = []
      · by_cases h2 : qs = []
        · subst h1 h2; simpa [glue] using h
        · subst h1
          rw [glue_cons h2] at h
          exact (none p q _ (hp p (.head _)) (by simpa [glue] using h)).elim
      · by_cases h2 : qs = []
        · subst h2
          rw [glue_cons h1] at h
          exact (none q p _ (hqs q (.head _)) (by simpa [glue] using h.symm)).elim
        · rw [glue_cons h1, glue_cons h2] at h
          obtain ⟨e1, e2⟩ := cut p q _ _ (hp p (.head _)) (hqs q (.head _)) (by simpa using h)
          rw [e1, ih h1 h2 (fun a ha => hp a (.tail _ ha)) (fun a ha => hqs a (.tail _ ha)) e2]
theorem split_eq {c : Nat} {x : List Nat} {ps : List (List Nat)} (hx : x = glue [c] ps) (h0 : ps ≠ []) (hf : ∀ p ∈ ps, c ∉ p) : Txt.split (S x) (S [c]) = ps.map S := by
  have e1 := StrLaws.join_split (S x) (S [c])
  have e2 := StrLaws.split_free (S x) c
  have back : ∀ l : List Str, ∃ qs : List (List Nat), l = qs.map S := fun l => ⟨l.map fun y => y.cps.toList, by rw [List.map_map]; exact (List.map_id l).symm.trans (List.map_congr_left fun y _ => by simp [S])⟩
  obtain ⟨qs, hq⟩ := back (Txt.split (S x) (S [c]))
  rw [hq] at e1
  have e2' : ∀ p ∈ qs, c ∉ p := by
    intro p hp
    have hm : S p ∈ Txt.split (S x) (S [c]) := by rw [hq]; exact List.mem_map_of_mem hp
    have := e2 (S p) hm
    simpa using this
  rw [join_S] at e1
  have hne : qs ≠ [] := by
    rintro rfl
    have e := congrArg List.length hq
    simp only [List.map_nil, List.length_nil] at e
    have : (Txt.split (S x) (S [c])) ≠ [] := by
      unfold Txt.split
      split
      · simp
      · split
        · simp
        · rename_i ho
          cases hocc : Builtin.Str.occurrences (S x) (S [c]) 0 (S x).length ((S x).length + 1) with
          | nil => rw [hocc] at ho; simp at ho
          | cons a r => simp [Builtin.Str.partsBetween]
    exact this (List.length_eq_zero_iff.mp e)
  rw [hq, glue_inj hne h0 e2' hf ((S_inj e1).trans hx)]
theorem sare_of : ∀ {l : List (Str × Tok)} {ps : List (List Nat)}, l.map (·.1) = ps.map S → SAre (strValues l) ps
  | [], [], _ => .nil
  | [], _ :: _, h => by simp at h
  | _ :: _, [], h => by simp at h
  | (a, t) :: l, p :: ps, h => by
    simp only [List.map_cons, List.cons.injEq] at h
    obtain ⟨e1, e2⟩ := h
    subst e1
    exact .cons (sare_of e2)
section
variable {prog : Program} {w : World} {A : Around} {E : Value → Shared → Prop} {s : Shared} {h₀ : Heap} {L : Addr} {m : Str → Option Value} {news : List (Addr × Obj)} {t u : Tok} {Q : Value → Shared → Prop}
theorem mul_eq {n : Int} (h0 : 0 ≤ n) : Txt.mul (Str.ofString "\"") n = S (List.replicate n.toNat 34) := by
  have q : Str.ofString "\"" = ⟨#[34]⟩ := by decide
  obtain ⟨k, rfl⟩ := Int.eq_ofNat_of_zero_le h0
  rw [q]
  unfold Txt.mul
  have fold : ∀ (k : Nat) (acc : Array Nat), (List.replicate k #[34]).foldl (· ++ ·) acc = acc ++ (List.replicate k 34).toArray := by
    intro k
    induction k with
    | zero => intro acc; simp
    | succ k ih => intro acc; simp only [List.replicate_succ, List.foldl_cons]; rw [ih, Array.append_assoc]; congr 1; exact (List.append_toArray [34] (List.replicate k 34)).symm ▸ rfl
  split
  · have : k = 0 := by omega
    subst this; rfl
  · split
    · rename_i h1 h2
      have : k = 1 := by
        simp at h2; rcases h2 with h2 | h2
        · omega
        · exact absurd h2 (by decide)
      subst this; rfl
    · apply Str.ext'
      show (List.replicate (Int.toNat (k : Int)) #[34]).foldl (· ++ ·) #[] = (List.replicate (Int.toNat (k : Int)) 34).toArray
      rw [fold]; simp
theorem mul_S {n : Int} (h0 : 0 ≤ n) (h1 : n ≤ 1000) (h : ∀ t' k, Q (.str (S (List.replicate n.toNat 34)) t') { s with toks := k }) : wpAny (model prog w) A (binaryOp .Mult (.str (Str.ofString "\"") t) (.int n u)) Q E s :=
  KXi.mul (n := 1) (by decide) (by decide) (by omega) (by omega) fun t' k _ _ => by rw [mul_eq h0]; exact h t' k
theorem add_S {a b : List Nat} (hz : a.length + b.length ≤ 16777216) (h : ∀ t' k, Q (.str (S (a ++ b)) t') { s with toks := k }) : wpAny (model prog w) A (binaryOp .Add (.str (S a) t) (.str (S b) u)) Q E s :=
  PySem.SB.add (fun t' k => by rw [S_add]; exact h t' k) (by rw [S_len, S_len, sizeLine_eq]; exact hz)
theorem join_list_S {c : List Nat} {D : Addr} {vs : List Value} {k : Nat} {ls : List (List Nat)} (N : News h₀ L s.heap news) (hm : (D, listOf vs.toArray k) ∈ news) (hi : SAre vs ls) (hz : (ls.map List.length).sum + ls.length * c.length ≤ 16777216)
    (h : ∀ t' k, Q (.str (S (glue c ls)) t') { s with toks := k }) : wpAny (model prog w) A (call (.builtin "str.join") [.str (S c) t, .ref D]) Q E s :=
  join_list (isList_of N hm) (by simpa using hi.strs) (by rw [List.map_map, List.length_map, S_len]; have : (List.length ∘ fun x : List Nat => x) = List.length := rfl; simpa [Function.comp_def, S_len] using hz) fun t' k => by rw [txtjoin_S]; exact h t' k
theorem add_eq {x y : Str} (a b : List Nat) (hx : x = S a) (hy : y = S b) (hz : a.length + b.length ≤ 16777216) (h : ∀ t' k, Q (.str (S (a ++ b)) t') { s with toks := k }) : wpAny (model prog w) A (binaryOp .Add (.str x t) (.str y u)) Q E s := by
  subst hx hy; exact add_S hz h
theorem join_eq {x : Str} (c : List Nat) {D : Addr} {vs : List Value} {k : Nat} {ls : List (List Nat)} (hx : x = S c) (N : News h₀ L s.heap news) (hm : (D, listOf vs.toArray k) ∈ news) (hi : SAre vs ls) (hz : (ls.map List.length).sum + ls.length * c.length ≤ 16777216)
    (h : ∀ t' k, Q (.str (S (glue c ls)) t') { s with toks := k }) : wpAny (model prog w) A (call (.builtin "str.join") [.str x t, .ref D]) Q E s := by
  subst hx; exact join_list_S N hm hi hz h
theorem len_S {l : List Nat} (hz : l.length ≤ 16777216) (h : ∀ t' k, Q (.int (l.length : Int) t') { s with toks := k }) : wpAny (model prog w) A (call (.builtin "len") [.str (S l) t]) Q E s := by
  refine PySem.P.len_str (by rw [S_len]; omega) ?_
  rw [S_len]; exact h _ _
theorem ne_same {x : Str} (h : Q (.bool false) s) : wpAny (model prog w) A (compareOp .NotEq (.str x t) (.str x u)) Q E s :=
  PyProof.Rows.ne_str (by simpa using h)
theorem split_S {c : Nat} {x : List Nat} {ps : List (List Nat)} (hx : x = glue [c] ps) (h0 : ps ≠ []) (hf : ∀ p ∈ ps, c ∉ p) (F : Fr h₀ L s.heap m) (N : News h₀ L s.heap news) (hz : x.length + 2 ≤ 16777216)
    (h : ∀ D vs h' k, SAre vs ps → Fr h₀ L h' m → News h₀ L h' ((D, listOf vs.toArray 0) :: news) → (∀ p ∈ news, p.1 < D) → Q (.ref D) { s with heap := h', toks := k }) :
    wpAny (model prog w) A (call (.builtin "str.split") [.str (S x) t, .str (S [c]) u]) Q E s := by
  refine splitN1 F N (by rw [S_len]; rfl) (fun l h' k e F' N' => ?_) (by rw [S_len, sizeLine_eq]; exact hz)
  rw [split_eq hx h0 hf] at e
  refine h _ (strValues l) h' k ?_ F' N' fun p hp => Heap.lt_size (N p hp).1
  exact sare_of e
end
end Mine
namespace Mine
open PySem.Spec PySem.SeqAt
section
variable {prog : Program} {w : World} {A : Around} {E : Value → Shared → Prop} {s : Shared} {h₀ : Heap} {L : Addr} {news : List (Addr × Obj)}
theorem eqAt_bytes (b : Array UInt8) (t : Tok) (c : Array UInt8) (u : Tok) : EqAt A s (.bytes b t) (.bytes c u) (decide (b = c)) := fun prog w E Q h => by
  unfold eqBool
  refine wpAny_holding ?_
  refine wpAny_ite_split (fun hab => ?_) (fun _ => ?_)
  · have e := eq_of_beq hab
    injection e with e1 e2
    subst e1
    simp only [decide_true] at h
    exact wpAny_bind (wpAny_rule (wpAny_pure h))
  · refine wpAny_bind (m := richCompare .Eq (.bytes b t) (.bytes c u)) (eq_bytes (prog := prog) (w := w) (E := E) (b := b) (c := c) (t := t) (u := u) ?_)
    refine wpAny_truthy_bool ?_
    have e : (b.toList == c.toList) = decide (b = c) := by
      by_cases hb : b = c
      · subst hb; simp
      · rw [decide_eq_false hb]
        have : b.toList ≠ c.toList := fun q => hb (by cases b; cases c; simpa using q)
        simpa using this
    rw [e]; exact h
inductive BytesAre : List Value → List (Array UInt8) → Prop
  | nil : BytesAre [] []
  | cons {b : Array UInt8} {t : Tok} {vs : List Value} {bs : List (Array UInt8)} : BytesAre vs bs → BytesAre (.bytes b t :: vs) (b :: bs)
theorem BytesAre.length : ∀ {vs bs}, BytesAre vs bs → vs.length = bs.length
  | _, _, .nil => rfl
  | _, _, .cons h => by simp [h.length]
theorem BytesAre.append : ∀ {vs bs vs' bs'}, BytesAre vs bs → BytesAre vs' bs' → BytesAre (vs ++ vs') (bs ++ bs')
  | _, _, _, _, .nil, h => h
  | _, _, _, _, .cons g, h => .cons (g.append h)
theorem BytesAre.get : ∀ {vs bs}, BytesAre vs bs → ∀ (j : Nat) (h : j < vs.length), ∃ t, vs[j] = .bytes (bs.getD j #[]) t
  | _, _, .nil, _, h => absurd h (by simp)
  | _, _, .cons (t := t) g, 0, _ => ⟨t, rfl⟩
  | _, _, .cons (t := t) g, j + 1, h => by
    obtain ⟨t', e⟩ := g.get j (by simpa using h)
    exact ⟨t', by simpa using e⟩
theorem BytesAre.mem : ∀ {vs bs}, BytesAre vs bs → ∀ v ∈ vs, ∃ b t, v = .bytes b t ∧ b ∈ bs
  | _, _, .cons (b := b) (t := t) g, v, h => by
    rcases List.mem_cons.mp h with rfl | h
    · exact ⟨b, t, rfl, List.mem_cons_self⟩
    · obtain ⟨b, t, e, m⟩ := g.mem v h
      exact ⟨b, t, e, List.mem_cons_of_mem _ m⟩
theorem range_all_eq (bs cs : List (Array UInt8)) (h : bs.length = cs.length) : (List.range bs.length).all (fun j => decide (bs.getD j #[] = cs.getD j #[])) = decide (bs = cs) := by
  rw [Bool.eq_iff_iff]
  simp only [List.all_eq_true, List.mem_range, decide_eq_true_eq]
  constructor
  · intro hj
    refine List.ext_getElem h fun j h1 h2 => ?_
    have := hj j h1
    simpa [h1, h2] using this
  · rintro rfl j _; rfl
theorem rc_bytes {l m : Addr} {vs us : List Value} {bs cs : List (Array UInt8)} (hl : s.heap.IsList l vs.toArray) (hm : s.heap.IsList m us.toArray) (hb : BytesAre vs bs) (hc : BytesAre us cs) (hu : A.units < cLine) : RcAt A s (.ref l) (.ref m) (decide (bs = cs)) := by
  by_cases hlen : bs.length = cs.length
  · have := RcAt.lists (A := A) (s := s) (e := fun j => decide (bs.getD j #[] = cs.getD j #[])) hl hm (by simp [hb.length, hc.length, hlen]) hu (fun j h1 h2 => by
      obtain ⟨t, e1⟩ := hb.get j (by simpa using h1)
      obtain ⟨u, e2⟩ := hc.get j (by simpa using h2)
      simp only [List.getElem_toArray, e1, e2]
      exact eqAt_bytes _ _ _ _)
    have e : vs.toArray.size = bs.length := by simp [hb.length]
    rw [e, range_all_eq bs cs hlen] at this
    exact this
  · have : decide (bs = cs) = false := decide_eq_false fun e => hlen (by rw [e])
    rw [this]
    exact RcAt.lists_lengths hl hm (by simp [hb.length, hc.length, hlen]) hu
theorem eq_bytesL {l m : Addr} {vs us : List Value} {bs cs : List (Array UInt8)} {Q : Value → Shared → Prop} (hl : s.heap.IsList l vs.toArray) (hm : s.heap.IsList m us.toArray) (hb : BytesAre vs bs) (hc : BytesAre us cs) (hu : A.units < cLine)
    (h : Q (.bool (decide (bs = cs))) s) : wpAny (model prog w) A (compareOp .Eq (.ref l) (.ref m)) Q E s := rc_bytes hl hm hb hc hu prog w E Q h
theorem ne_bytesL_same {l m : Addr} {vs us : List Value} {bs : List (Array UInt8)} {Q : Value → Shared → Prop} (hl : s.heap.IsList l vs.toArray) (hm : s.heap.IsList m us.toArray) (hb : BytesAre vs bs) (hc : BytesAre us bs) (hu : A.units < cLine)
    (h : Q (.bool false) s) : wpAny (model prog w) A (compareOp .NotEq (.ref l) (.ref m)) Q E s := by
  have := RcNeAt.lists (A := A) (s := s) (e := fun _ => true) hl hm (by simp [hb.length, hc.length]) hu (fun j h1 h2 => by
    obtain ⟨t, e1⟩ := hb.get j (by simpa using h1)
    obtain ⟨u, e2⟩ := hc.get j (by simpa using h2)
    simp only [List.getElem_toArray, e1, e2]
    have := eqAt_bytes (A := A.in1) (s := s) (bs.getD j #[]) t (bs.getD j #[]) u
    rwa [decide_eq_true rfl] at this)
  refine this prog w E Q ?_
  have e : (!(List.range vs.toArray.size).all fun _ => true) = false := by simp
  rw [e]; exact h
theorem notIn_bytes {l : Addr} {vs : List Value} {bs : List (Array UInt8)} {b : Array UInt8} {t : Tok} {Q : Value → Shared → Prop} (hl : s.heap.IsList l vs.toArray) (hb : BytesAre vs bs)
    (h : Q (.bool (!decide (b ∈ bs))) s) : wpAny (model prog w) A (compareOp .NotIn (.bytes b t) (.ref l)) Q E s := by
  refine notIn_listAt (fun y => match y with | .bytes c _ => decide (c = b) | _ => false) hl (fun y hy => ?_) ?_
  · obtain ⟨c, u, rfl, _⟩ := hb.mem y (by simpa using hy)
    exact eqAt_bytes _ _ _ _
  · have e : ∀ {vs : List Value} {bs : List (Array UInt8)}, BytesAre vs bs → vs.any (fun y => match y with | .bytes c _ => decide (c = b) | _ => false) = decide (b ∈ bs) := by
      intro vs bs hb
      induction hb with
      | nil => simp
      | cons g ih =>
        rw [List.any_cons, ih]
        rw [Bool.eq_iff_iff]
        simp only [Bool.or_eq_true, decide_eq_true_eq, List.mem_cons]
        exact ⟨fun q => q.imp Eq.symm id, fun q => q.imp Eq.symm id⟩
    rw [← Array.any_toList]
    show Q (.bool (!(vs.any _))) s
    rw [e hb]; exact h
end
theorem w_same (u a b : Int) : (u * (a - b)).natAbs = (u * (if a - b < 0 then -(a - b) else a - b)).natAbs := by
  split
  · rw [Int.mul_neg, Int.natAbs_neg]
  · rfl
end Mine
namespace Mine
open PySem.Spec
section
variable {prog : Program} {w : World} {A : Around} {E : Value → Shared → Prop} {s : Shared} {h₀ : Heap} {L : Addr} {news : List (Addr × Obj)} {l : Addr} {us : List Value} {c : Nat} {k : Int} {u : Tok} {v : Value} {Q : Value → Shared → Prop} {value slice : Expr}
theorem item_pos (N : News h₀ L s.heap news) (hm : (l, listOf us.toArray c) ∈ news) (h0 : 0 ≤ k) (hk : k < 2 ^ 63) (hx : us[k.toNat]? = some v) (h : Q v s)
    (hs : subscripted slice false (.ref l) (.int k u) = operate [.ref l, .int k u] (getItem (.ref l) (.int k u)) := by with_unfolding_all rfl) :
    wpAny (model prog w) A (subscriptTail value slice (.ref l) (.int k u)) Q E s :=
  have hL := isList_of N hm
  tail_any hL.typeIs slot_list_getitem.lookup (wpAny_getItem_list hL h0 hk (by simpa using hx) h) hs
theorem item_neg (N : News h₀ L s.heap news) (hm : (l, listOf us.toArray c) ∈ news) (h0 : k < 0) (h1 : -(us.length : Int) ≤ k) (hf : -(2 ^ 63) ≤ k) (hx : us[(k + us.length).toNat]? = some v) (h : Q v s)
    (hs : subscripted slice false (.ref l) (.int k u) = operate [.ref l, .int k u] (getItem (.ref l) (.int k u)) := by with_unfolding_all rfl) :
    wpAny (model prog w) A (subscriptTail value slice (.ref l) (.int k u)) Q E s :=
  have hL := isList_of N hm
  tail_any hL.typeIs slot_list_getitem.lookup (wpAny_getItem_list_neg hL h0 (by simpa using h1) hf (by simpa using hx) h) hs
theorem ints_pick {vs : List Value} {ns : List Int} (h : IntsAre vs ns) : ∀ js : List Nat, ∃ ks, IntsAre (js.filterMap (vs.toArray[·]?)) ks
  | [] => ⟨[], .nil⟩
  | j :: js => by
    obtain ⟨ks, hk⟩ := ints_pick h js
    cases e : vs[j]? with
    | none =>
      refine ⟨ks, ?_⟩
      rw [List.filterMap_cons]
      simp only [List.getElem?_toArray, e]
      simpa using hk
    | some v =>
      obtain ⟨n, t, rfl, _⟩ := IntsAre.at h j v e
      refine ⟨n :: ks, ?_⟩
      rw [List.filterMap_cons]
      simp only [List.getElem?_toArray, e]
      exact .cons n t (by simpa using hk)
theorem slice3_ints {m : Str → Option Value} {vs : List Value} {ns : List Int} {vl vu vk : Value} {lo hi st : Option Int} {ops : List Value} (F : Fr h₀ L s.heap m) (N : News h₀ L s.heap news) (hl : s.heap.IsList l vs.toArray) (hI : IntsAre vs ns) (hn : ns.length ≤ 1000) (pl : IsPart vl lo) (pu : IsPart vu hi) (pk : IsPart vk st) (h0 : st ≠ some 0)
    (h : ∀ D ws ks h', IntsAre ws ks → Fr h₀ L h' m → News h₀ L h' ((D, listOf ws.toArray 0) :: news) → (∀ p ∈ news, p.1 < D) → Q (.ref D) { s with heap := h' })
    (hs : subscripted slice false (.ref l) (.ref s.heap.objs.size) = operate ops (getItem (.ref l) (.ref s.heap.objs.size)) := by with_unfolding_all rfl) (ht : ∀ r, letTemporaryGo value (.ref l) r = pure () := by intro _; with_unfolding_all rfl) :
    wpAny (model prog w) A (subscriptTail value slice (.ref l) (.ref s.heap.objs.size)) Q E { s with heap := s.heap.push { cls := .type "slice", data := .fields #[vl, vu, vk] } } := by
  refine kmk_slice3_lit F N hl pl pu pk h0 rfl (fun D h' F' N' lt => ?_) hs ht (by rw [List.size_toArray, hI.length, sizeLine_eq]; omega)
  obtain ⟨ks, hk⟩ := ints_pick hI (sliceRange (sliceBounds lo hi st vs.toArray.size).1 (sliceBounds lo hi st vs.toArray.size).2.1 (sliceBounds lo hi st vs.toArray.size).2.2)
  refine h D _ ks h' ?_ F' N' lt
  unfold slicePick
  simpa using hk
end
end Mine
namespace Mine
open PySem.Spec
def ab (x : Int) : Int := if x < 0 then -x else x
def dif (ns : List Int) (i : Nat) : Int := ns.getD i 0 - ns.getD ((i + ns.length - 1) % ns.length) 0
def made (ns : List Int) : List Int := (List.range ns.length).map fun i => ab (dif ns i)
def marks (n : Int) : List Nat := List.replicate n.toNat 34
def half (x : Int) : List Nat := marks (x.fdiv 2)
def fstOdd : List Int → Nat
  | [] => 0
  | x :: r => if x.fmod 2 = 1 then 0 else fstOdd r + 1
def quoted (sg : Nat) (md : List Int) : List Nat := (md.map fun x => marks x ++ [sg]).flatten
def tells (sg : Nat) (md : List Int) (f : Nat) : List Nat := glue [sg] (((md ++ [0]).take (f + 1)).map half)
theorem ab_nonneg (x : Int) : 0 ≤ ab x := by unfold ab; split <;> omega
theorem ab_natAbs (x : Int) : ab x = (x.natAbs : Int) := by unfold ab; split <;> omega
theorem fmod2 (x : Int) : x.fmod 2 = x % 2 := Int.fmod_eq_emod_of_nonneg _ (by decide)
theorem fdiv2 (x : Int) : x.fdiv 2 = x / 2 := Int.fdiv_eq_ediv_of_nonneg _ (by decide)
theorem p257_rep (h : Nat) {c : Nat} (hc : c ≠ 34) (r : List Nat) : p257 (List.replicate (2 * h) 34 ++ c :: r) = List.replicate h 34 ++ c :: p257 r := by
  induction h with
  | zero => simp [p257_other hc]
  | succ h ih =>
    have e : 2 * (h + 1) = (2 * h + 1) + 1 := by omega
    rw [e, List.replicate_succ, List.replicate_succ, List.cons_append, List.cons_append, p257_pair, ih]
    simp [List.replicate_succ]
theorem p257_rep1 (h : Nat) {c : Nat} (hc : c ≠ 34) (r : List Nat) : p257 (List.replicate (2 * h + 1) 34 ++ c :: r) = List.replicate h 34 := by
  induction h with
  | zero => simp [p257_stop hc]
  | succ h ih =>
    have e : 2 * (h + 1) + 1 = (2 * h + 1 + 1) + 1 := by omega
    rw [e, List.replicate_succ, List.replicate_succ, List.cons_append, List.cons_append, p257_pair, ih]
    simp [List.replicate_succ]
theorem tells_law {sg : Nat} (hs : sg ≠ 34) (k : Nat) (hk : k ≤ 1) : ∀ md : List Int, (∀ x ∈ md, 0 ≤ x) → p257 (quoted sg md ++ List.replicate k 34) = tells sg md (fstOdd md)
  | [], _ => by
    have : k = 0 ∨ k = 1 := by omega
    rcases this with rfl | rfl
    · simp [quoted, tells, fstOdd, glue, half, marks, p257]
    · simp [quoted, tells, fstOdd, glue, half, marks, p257, List.replicate_succ]
  | x :: r, hx => by
    have h0 : 0 ≤ x := hx x (.head _)
    have ih := tells_law hs k hk r fun y hy => hx y (.tail _ hy)
    have eq : quoted sg (x :: r) ++ List.replicate k 34 = List.replicate x.toNat 34 ++ sg :: (quoted sg r ++ List.replicate k 34) := by simp [quoted, marks]
    rw [eq]
    by_cases ho : x.fmod 2 = 1
    · have e : x.toNat = 2 * (x.fdiv 2).toNat + 1 := by rw [fmod2] at ho; rw [fdiv2]; omega
      rw [e, p257_rep1 _ hs]
      simp [tells, fstOdd, ho, glue, half, marks]
    · have e : x.toNat = 2 * (x.fdiv 2).toNat := by rw [fmod2] at ho; rw [fdiv2]; omega
      rw [e, p257_rep _ hs, ih]
      simp only [tells, fstOdd, if_neg ho, List.cons_append, List.take_succ_cons, List.map_cons]
      rw [glue_cons (by simp)]
      simp [half, marks]
theorem told_law {sg : Nat} (hs : sg ≠ 34) (k : Nat) (hk : k ≤ 1) {md : List Int} (hm : ∀ x ∈ md, 0 ≤ x) : told 32 34 (quoted sg md ++ List.replicate k 34) = S (tells sg md (fstOdd md)) := by
  unfold told
  rw [if_pos ⟨rfl, rfl⟩, tells_law hs k hk md hm]
theorem fstOdd_le : ∀ md : List Int, fstOdd md ≤ md.length
  | [] => Nat.le_refl _
  | x :: r => by
    have := fstOdd_le r
    unfold fstOdd
    split <;> simp <;> omega
theorem fstOdd_all {md : List Int} (h : fstOdd md = md.length) : ∀ x ∈ md, x.fmod 2 ≠ 1 := by
  induction md with
  | nil => intro x hx; cases hx
  | cons y r ih =>
    intro x hx
    unfold fstOdd at h
    split at h
    · simp at h
    · rcases List.mem_cons.mp hx with rfl | hx
      · assumption
      · exact ih (by simpa using h) x hx
/-- where all are even, the halves are told, each with its sign -/
theorem tells_all (sg : Nat) (md : List Int) : tells sg md md.length = glue [sg] (md.map half ++ [[]]) := by
  unfold tells
  rw [List.take_of_length_le (by simp)]
  simp [half, marks]
theorem half_free {sg : Nat} (hs : sg ≠ 34) (md : List Int) : ∀ p ∈ md.map half ++ [[]], sg ∉ p := by
  intro p hp
  rcases List.mem_append.mp hp with hp | hp
  · obtain ⟨x, _, rfl⟩ := List.mem_map.mp hp
    intro hm
    exact hs (List.eq_of_mem_replicate hm)
  · simp at hp; subst hp; simp
theorem half_len (x : Int) (h : 0 ≤ x) : ((half x).length : Int) = x.fdiv 2 := by
  unfold half marks
  rw [List.length_replicate, fdiv2]; omega
def nextRing (nr : List Int) : List Int := if fstOdd (made nr) = nr.length then (made nr).map (fun x => x.fdiv 2) else made nr
theorem half_lens (md : List Int) (h : ∀ x ∈ md, 0 ≤ x) : ((md.map half ++ [[]]).map fun p : List Nat => (p.length : Int)).take md.length = md.map fun x => x.fdiv 2 := by
  rw [List.map_append, List.take_append_of_le_length (by simp), List.take_of_length_le (by simp), List.map_map]
  refine List.map_congr_left fun x hx => half_len x (h x hx)
theorem range_snoc {α : Type} (f : Nat → α) (i : Nat) : (List.range (i + 1)).map f = (List.range i).map f ++ [f i] := by
  rw [List.range_succ, List.map_append]; rfl
theorem take_snoc {α : Type} (xs : List α) (d : α) {i : Nat} (h : i < xs.length) : xs.take (i + 1) = xs.take i ++ [xs.getD i d] := by
  rw [List.take_add_one]
  simp [h]
theorem made_len (ns : List Int) : (made ns).length = ns.length := by simp [made]
theorem made_get (ns : List Int) {i : Nat} (h : i < ns.length) : (made ns).getD i 0 = ab (dif ns i) := by simp [made, h]
theorem made_nonneg (ns : List Int) : ∀ x ∈ made ns, 0 ≤ x := by
  intro x hx
  obtain ⟨i, _, rfl⟩ := List.mem_map.mp hx
  exact ab_nonneg _
theorem getD_in {ns : List Int} {B : Int} (hb : ∀ x ∈ ns, 0 ≤ x ∧ x < B) (hB : 0 < B) (i : Nat) : 0 ≤ ns.getD i 0 ∧ ns.getD i 0 < B := by
  rw [List.getD_eq_getElem?_getD]
  by_cases h : i < ns.length
  · rw [List.getElem?_eq_getElem h]
    exact hb _ (List.getElem_mem h)
  · rw [List.getElem?_eq_none (by omega)]
    exact ⟨by simp, by simpa using hB⟩
theorem dif_in {ns : List Int} {B : Int} (hb : ∀ x ∈ ns, 0 ≤ x ∧ x < B) (hB : 0 < B) (i : Nat) : -B < dif ns i ∧ dif ns i < B := by
  have h1 := getD_in hb hB i
  have h2 := getD_in hb hB ((i + ns.length - 1) % ns.length)
  unfold dif; omega
theorem made_in {ns : List Int} {B : Int} (hb : ∀ x ∈ ns, 0 ≤ x ∧ x < B) (hB : 0 < B) : ∀ x ∈ made ns, 0 ≤ x ∧ x < B := by
  intro x hx
  obtain ⟨i, _, rfl⟩ := List.mem_map.mp hx
  have := dif_in hb hB i
  refine ⟨ab_nonneg _, ?_⟩
  unfold ab; split <;> omega
theorem word_mul (u d : Int) : (u * ab d).natAbs = (u * d).natAbs := by
  unfold ab; split
  · rw [Int.mul_neg, Int.natAbs_neg]
  · rfl
theorem mul_in {u d U B : Int} (hu : 0 ≤ u ∧ u ≤ U) (hd : -B < d ∧ d < B) : -(U * B) ≤ u * d ∧ u * d ≤ U * B := by
  have hB : 0 < B := by omega
  have h1 : u * d ≤ U * B := Int.le_trans (Int.mul_le_mul_of_nonneg_left (show d ≤ B by omega) hu.1) (Int.mul_le_mul_of_nonneg_right hu.2 (by omega))
  have h2 : u * -d ≤ U * B := Int.le_trans (Int.mul_le_mul_of_nonneg_left (show -d ≤ B by omega) hu.1) (Int.mul_le_mul_of_nonneg_right hu.2 (by omega))
  rw [Int.mul_neg] at h2
  omega
theorem words_eq (u : Int) (nr : List Int) {n : Nat} (h : n ≤ nr.length) : (List.range n).map (fun j => (word (u * (made nr).getD j 0).natAbs).toArray) = (List.range n).map (fun j => (word (u * dif nr j).natAbs).toArray) := by
  refine List.map_congr_left fun j hj => ?_
  rw [made_get nr (by have := List.mem_range.mp hj; omega), word_mul]
section
variable {prog : Program} {w : World} {A : Around} {E : Value → Shared → Prop} {s : Shared} {h₀ : Heap} {L : Addr} {news : List (Addr × Obj)} {l : Addr} {us : List Value} {ns : List Int} {c : Nat} {u : Tok} {Q : Value → Shared → Prop} {value slice : Expr}
theorem sum_le {B : Nat} : ∀ ls : List Nat, (∀ x ∈ ls, x ≤ B) → ls.sum ≤ ls.length * B
  | [], _ => by simp
  | x :: r, h => by
    have h1 := h x (.head _)
    have h2 := sum_le r fun y hy => h y (.tail _ hy)
    rw [List.sum_cons, List.length_cons, Nat.succ_mul]; omega
theorem quoted_len (sg : Nat) {md : List Int} {B : Nat} (hb : ∀ x ∈ md, 0 ≤ x ∧ x < (B : Int)) : (quoted sg md).length ≤ md.length * B := by
  unfold quoted
  rw [List.length_flatten, List.map_map]
  have := sum_le (B := B) (md.map (List.length ∘ fun x => marks x ++ [sg])) (by
    intro y hy
    obtain ⟨x, hx, rfl⟩ := List.mem_map.mp hy
    have := hb x hx
    simp only [Function.comp, marks, List.length_append, List.length_replicate, List.length_singleton]
    omega)
  simpa using this
theorem glue_len (c : Nat) : ∀ ls : List (List Nat), (glue [c] ls).length ≤ (ls.map List.length).sum + ls.length
  | [] => by simp [glue]
  | [x] => by simp [glue]
  | x :: y :: r => by
    have ih := glue_len c (y :: r)
    have e : glue [c] (x :: y :: r) = x ++ [c] ++ glue [c] (y :: r) := rfl
    rw [e]
    simp only [List.length_append, List.length_cons, List.map_cons, List.sum_cons, List.length_nil] at ih ⊢
    omega
theorem half_sum {xs : List Int} {B : Nat} (hb : ∀ x ∈ xs, 0 ≤ x ∧ x < (B : Int)) : ((xs.map half).map List.length).sum ≤ xs.length * B := by
  have := sum_le (B := B) ((xs.map half).map List.length) (by
    intro y hy
    obtain ⟨p, hp, rfl⟩ := List.mem_map.mp hy
    obtain ⟨x, hx, rfl⟩ := List.mem_map.mp hp
    have := hb x hx
    have h2 := half_len x this.1
    rw [fdiv2] at h2; omega)
  rw [List.length_map, List.length_map] at this
  exact this
theorem half_small {md : List Int} {B : Nat} (hb : ∀ x ∈ md, 0 ≤ x ∧ x < (B : Int)) : ∀ p ∈ md.map half ++ [[]], p.length ≤ B := by
  intro p hp
  rcases List.mem_append.mp hp with hp | hp
  · obtain ⟨x, hx, rfl⟩ := List.mem_map.mp hp
    have := hb x hx
    have h2 := half_len x this.1
    rw [fdiv2] at h2; omega
  · simp at hp; subst hp; simp
theorem join_quoted {D : Addr} {vs : List Value} {k sg : Nat} {md : List Int} {B : Nat} {x : Str} {t : Tok} (hx : x = S []) (N : News h₀ L s.heap news) (hm : (D, listOf vs.toArray k) ∈ news) (hi : SAre vs (md.map fun x => marks x ++ [sg])) (hb : ∀ x ∈ md, 0 ≤ x ∧ x < (B : Int)) (hz : md.length * B ≤ 16777216)
    (h : ∀ t' k, Q (.str (S (quoted sg md)) t') { s with toks := k }) : wpAny (model prog w) A (call (.builtin "str.join") [.str x t, .ref D]) Q E s := by
  refine join_eq [] hx N hm hi ?_ fun t' k => by rw [glue_nil]; exact h t' k
  have := quoted_len sg hb
  unfold quoted at this
  rw [List.length_flatten] at this
  simp only [List.length_nil, Nat.mul_zero, Nat.add_zero]
  omega
/-- xs[place], the place the comprehension's i-th -/
theorem item_cur (i : Nat) (N : News h₀ L s.heap news) (hm : (l, listOf us.toArray c) ∈ news) (hI : IntsAre us ns) (hi : i < ns.length) (hz : ns.length ≤ 64) (h : ∀ t, Q (.int (ns.getD i 0) t) s)
    (hs : subscripted slice false (.ref l) (.int (0 + (i : Int)) u) = operate [.ref l, .int (0 + (i : Int)) u] (getItem (.ref l) (.int (0 + (i : Int)) u)) := by with_unfolding_all rfl) :
    wpAny (model prog w) A (subscriptTail value slice (.ref l) (.int (0 + (i : Int)) u)) Q E s := by
  have hlen := hI.length
  obtain ⟨v, hv⟩ : ∃ v, us[i]? = some v := ⟨us[i]'(by omega), List.getElem?_eq_getElem (by omega)⟩
  obtain ⟨t, rfl, _⟩ := IntsAre.at' hI i v hv
  refine item_pos N hm (by omega) (by omega) ?_ (h t) hs
  have : (0 + (i : Int)).toNat = i := by omega
  rw [this]; exact hv
/-- xs[place - 1]: the one ahead in the ring -/
theorem item_prev (i : Nat) (N : News h₀ L s.heap news) (hm : (l, listOf us.toArray c) ∈ news) (hI : IntsAre us ns) (hi : i < ns.length) (hz : ns.length ≤ 64) (h : ∀ t, Q (.int (ns.getD ((i + ns.length - 1) % ns.length) 0) t) s)
    (hs : subscripted slice false (.ref l) (.int (0 + (i : Int) - 1) u) = operate [.ref l, .int (0 + (i : Int) - 1) u] (getItem (.ref l) (.int (0 + (i : Int) - 1) u)) := by with_unfolding_all rfl) :
    wpAny (model prog w) A (subscriptTail value slice (.ref l) (.int (0 + (i : Int) - 1) u)) Q E s := by
  have hlen := hI.length
  have hlt : (i + ns.length - 1) % ns.length < ns.length := Nat.mod_lt _ (by omega)
  obtain ⟨v, hv⟩ : ∃ v, us[(i + ns.length - 1) % ns.length]? = some v := ⟨us[(i + ns.length - 1) % ns.length]'(by omega), List.getElem?_eq_getElem (by omega)⟩
  obtain ⟨t, rfl, _⟩ := IntsAre.at' hI _ v hv
  by_cases h0 : i = 0
  · subst h0
    refine item_neg N hm (by omega) (by omega) (by omega) ?_ (h t) hs
    have e : (0 + ((0 : Nat) : Int) - 1 + (us.length : Int)).toNat = (0 + ns.length - 1) % ns.length := by
      rw [Nat.mod_eq_of_lt (by omega)]; omega
    rw [e]; exact hv
  · refine item_pos N hm (by omega) (by omega) ?_ (h t) hs
    have e : (0 + (i : Int) - 1).toNat = (i + ns.length - 1) % ns.length := by
      have : i + ns.length - 1 = (i - 1) + ns.length := by omega
      rw [this, Nat.add_mod_right, Nat.mod_eq_of_lt (by omega)]; omega
    rw [e]; exact hv
theorem ret_pair {m : Str → Option Value} {R : List Int} {X : Int} {orig rest : List (Addr × Obj)} {T l' : Addr} {vs' : List Value} {c' : Nat} {x : Int} {t : Tok} {h' : Heap} {tk' : Nat}
    (hq : ∀ (T l' : Addr) (vs' : List Value) (c' : Nat) (x : Int) (t : Tok) (h' : Heap) (tk' : Nat), IntsAre vs' R → x = X → Fr h₀ L h' m → News h₀ L h' ((T, { cls := .type "tuple", data := .seq #[.ref l', .int x t] }) :: (l', listOf vs'.toArray c') :: orig) → Q (.ref T) { s with heap := h', toks := tk' })
    (F : Fr h₀ L h' m) (N : News h₀ L h' ((T, { cls := .type "tuple", data := .seq #[.ref l', .int x t] }) :: rest)) (hm : (l', listOf vs'.toArray c') ∈ rest) (sub : ∀ p ∈ orig, p ∈ rest) (hI : IntsAre vs' R) (hx : x = X) : Q (.ref T) { s with heap := h', toks := tk' } :=
  hq T l' vs' c' x t h' tk' hI hx F fun p hp => by
    rcases List.mem_cons.mp hp with rfl | hp
    · exact N _ (.head _)
    · rcases List.mem_cons.mp hp with rfl | hp
      · exact N _ (.tail _ hm)
      · exact N p (.tail _ (sub p hp))
end
end Mine
namespace Mine
local macro_rules | `(tactic| cell_enter) => `(tactic| (refine' code_defC ?k1 ?k2 ?k3 ?k4 ?k5 ?kA ?kF ?kK ?k6 ?k7 ?k8 ?k9 ?kB ?kD ?_ ?c2 ?c3 ?c4; (case kA => exact rfl); (case kF => exact rfl); (case kK => assumption); (case k1 => k_asm); (case k2 => k_asm); (case k3 => k_asm); (case k4 => k_asm); (case k5 => k_asm); (case k6 => k_is); (case k7 => k_is); (case k8 => first | exact Nat.lt_of_le_of_lt (Nat.le_add_right _ _) (by assumption) | ktr_room); (case k9 => exact BindsTo.of_eq rfl); (case kB => exact rfl); (case kD => decide +kernel); (case c2 => exact rfl); (case c3 => exact rfl); (case c4 => exact rfl); k_whole; intro g' L' h' tk' cells' FG' F' N' Y' B' X' T' l1; (try k_lt l1); k_cells Y'; (try simp only [List.cons_append, List.nil_append] at N'); (try dsimp only); (try k_lift B'); (try k_fold)))
local macro_rules | `(tactic| walk_at "CompEnd") => `(tactic| (k_here; k_dflt (
  (refine LCg.CompEnd.intro (by assumption) (by assumption) _ (fun p hp => hp) (by with_unfolding_all assumption) (by lcg_src) ?_))))
local macro_rules | `(tactic| walk_at "eval ListComp") => `(tactic| (k_here; k_dflt (refine LCg.ListComp_U (F₀ := by k_asm) (by with_unfolding_all rfl) (by decide) (by rfl) (by decide) (by rfl) ?_)))
local macro_rules | `(tactic| walk_at "exec Assign cons ListComp") => `(tactic| (k_here; k_dflt (refine LCg.Assign_ListComp_U (F₀ := by k_asm) (by rfl) (by with_unfolding_all rfl) (by with_unfolding_all rfl) (by decide) (by rfl) (by decide) (by rfl) (by rfl) (by rfl) ?_)))
local macro_rules | `(tactic| walk_at "CompSrc") => `(tactic| (refine Hold.intro ?_))
local macro_rules | `(tactic| walk_at "subscriptTail Name Name ref int") => `(tactic| (k_here; k_dflt (refine' item_cur _ ?k1 ?k2 ?k3 ?k4 ?k5 ?_; (case k1 => k_asm); (case k2 => k_mem); (case k3 => assumption); (case k4 => omega); (case k5 => omega); k_whole; intro t')))
local macro_rules | `(tactic| walk_at "subscriptTail Name BinOp ref int") => `(tactic| (k_here; k_dflt (refine' item_prev _ ?k1 ?k2 ?k3 ?k4 ?k5 ?_; (case k1 => k_asm); (case k2 => k_mem); (case k3 => assumption); (case k4 => omega); (case k5 => omega); k_whole; intro t')))
theorem call_bound {nr : List Int} {u : Int} (hu : 0 ≤ u ∧ u ≤ 300) (hb : ∀ x ∈ nr, 0 ≤ x ∧ x < 8) (i : Nat) : -(2 ^ 40) < u * dif nr i ∧ u * dif nr i < 2 ^ 40 := by
  have := mul_in hu (dif_in hb (by decide) i)
  omega
theorem word_bound {nr : List Int} {u : Int} (hu : 0 ≤ u ∧ u ≤ 300) (hb : ∀ x ∈ nr, 0 ≤ x ∧ x < 8) (i : Nat) : 0 ≤ u * (made nr).getD i 0 ∧ u * (made nr).getD i 0 < 4096 := by
  have h1 := getD_in (made_in hb (by decide)) (by decide) i
  have h2 := mul_in hu (d := (made nr).getD i 0) (B := 8) (by omega)
  have h3 := Int.mul_nonneg hu.1 h1.1
  omega
local macro_rules | `(tactic| walk_at "compareOp NotEq") => `(tactic| (refine Hold.intro ?_))
local macro_rules | `(tactic| walk_at "compareOp NotEq ref ref") => `(tactic| (refine Hold.intro ?_))
local macro_rules | `(tactic| walk_at "compareOp NotEq str str") => `(tactic| (refine Hold.intro ?_))
local macro_rules | `(tactic| walk_at "call builtin:str.join cons nil") => `(tactic| (refine Hold.intro ?_))
local macro_rules | `(tactic| walk_at "binaryOp Mult str int") => `(tactic| (k_here; k_dflt (refine mul_S (by omega) (by omega) ?_); intro t' k'))
local macro_rules | `(tactic| walk_at "binaryOp Add str str") => `(tactic| (refine Hold.intro ?_))
local macro_rules | `(tactic| walk_at "call builtin:str.split cons nil") => `(tactic| (refine Hold.intro ?_))
local macro_rules | `(tactic| walk_at "call builtin:len cons nil") => `(tactic| (refine Hold.intro ?_))
local macro_rules | `(tactic| walk_at "call ref") => `(tactic| (refine Hold.intro ?_))
set_option maxRecDepth 100000 in
set_option maxHeartbeats 8000000 in
theorem lturn2 {w : World} {h : Heap} {mg mb : Str → Option Value} {dp un : Nat} {gd : Option (List Code)} {cn : Str} {cs : Scope} {a : Addr} {ccd : Value} {cl : List (Str × Addr)} {outer : List Env} {A₀ : Around} {base h₀ : Heap} {L : Addr} {m : Str → Option Value} {s : Shared} {Q E : Value → Shared → Prop} {news : List (Addr × Obj)}
    {r st : Addr} {vr vs : List Value} {cr cst : Nat} {nr ns : List Int} (n sg : Nat) (u : Int) (t1 t2 t3 : Tok) (B : Below A₀ base outer h₀) (F : Fr h₀ L s.heap m) (X : (hd.heap_39 w.params).In h₀) (N : News h₀ L s.heap ((r, listOf vr.toArray cr) :: (st, listOf vs.toArray cst) :: news)) (T : Top hd.view_39 (looseW hd.view_39 []) (ExcName.means h) mg mb h₀) (hk : cs.kind = .function)
    (hIr : IntsAre vr nr) (hr : nr.length = 5) (hIs : IntsAre vs ns) (hs : ns.length = 5) (hn : n ≤ 63) (hsg : sg < 128 ∧ sg ≠ 34) (hu : 0 ≤ u ∧ u ≤ 300) (hb : ∀ x ∈ nr, 0 ≤ x ∧ x < 8) (hdp : dp + 60 < recursionLimit) (hun : un + 60 < cLine)
    (hfo : fofrom 5 ns n 5 0 = (fstOdd (made nr) : Int))
    (hq : ∀ (T l' : Addr) (vs' : List Value) (c' : Nat) (x : Int) (t : Tok) (h' : Heap) (tk' : Nat), IntsAre vs' (nextRing nr) → x = (if fstOdd (made nr) = nr.length then 0 else (n : Int)) → Fr h₀ L h' m → News h₀ L h' ((T, { cls := .type "tuple", data := .seq #[.ref l', .int x t] }) :: (l', listOf vs'.toArray c') :: (r, listOf vr.toArray cr) :: (st, listOf vs.toArray cst) :: news) → Q (.ref T) { s with heap := h', toks := tk' }) :
    wpAny (model PySem.Challenge.rw_pm0003_02.row.prog w) (ktrTop dp un gd cn cs L a ccd cl outer) (call (.ref 68) [.ref r, .ref st, .int n t1, .str (S [sg]) t2, .int u t3]) Q E s := by
  revert X
  k_fill
  w_top off
  intro X
  k_with_none
  refine wpAny_call ?_
  k_dflt cell_enter
  k_steps
  rename IsRange _ _ _ _ _ _ _ _ => rg
  refine Hold.out (LCg.CompSrc.range (n := 5) rfl (by assumption) (by assumption) rg (by decide) rfl (by decide) (fun g => ?_))
  clear rg
  refine comp_inv (n := 5) (fun i ys => IntsAre ys ((List.range i).map fun j => ab (dif nr j))) ?turn1 ?done1 5 0 [] rfl IntsAre.nil
  case turn1 =>
    rintro i ys v I oI C oC D m₂ h tk E' hi hys ⟨tv, rfl⟩ hC hv F N off ne
    k_steps
    rw [range_snoc]
    exact hys.append (.cons _ _ .nil)
  case done1 =>
    rintro md hmd
    have hmd' : IntsAre md (made nr) := by unfold made; rw [hr]; exact hmd
    k_steps
    rename IsRange _ _ _ _ _ _ _ _ => rg
    refine Hold.out (LCg.CompSrc.range (n := 5) rfl (by assumption) (by assumption) rg (by decide) rfl (by decide) (fun g => ?_))
    clear rg
    refine comp_inv (n := 5) (fun i ys => BytesAre ys ((List.range i).map fun j => (word (u * dif nr j).natAbs).toArray)) ?turn2 ?done2 5 0 [] rfl BytesAre.nil
    case turn2 =>
      rintro i ys v I oI C oC D m₂ h tk E' hi hys ⟨tv, rfl⟩ hC hv F N off ne
      k_steps
      k_dflt refine Hold.out (int2ap_at (by assumption) (by assumption) (by assumption) (by assumption) (by assumption) rfl (call_bound hu hb i) (depth_le hdp (by decide)) (unit_le hun (by decide)) ?_)
      intro t' h' tk' F' N'
      k_steps
      rw [range_snoc]
      exact hys.append (.cons .nil)
    case done2 =>
      rintro ws hws
      k_steps
      refine Hold.out (LCg.CompSrc.ledger rfl (by assumption) (by assumption) (by k_mem) (by rw [List.size_toArray, hmd'.length, made_len, hr]; decide) (fun g => ?_))
      refine comp_inv (n := md.toArray.size) (fun i ys => BytesAre ys ((List.range i).map fun j => (word (u * (made nr).getD j 0).natAbs).toArray)) ?turn3 ?done3 _ 0 [] (Nat.zero_add _) BytesAre.nil
      case turn3 =>
        rintro i ys v I oI C oC D m₂ h tk E' hi hys hv0 hC hv F N off ne
        obtain ⟨tv, rfl, hi'⟩ := IntsAre.at' hmd' i v (by simpa using hv0)
        k_steps
        k_dflt refine Hold.out (lword_at (by assumption) (by assumption) (by assumption) (by assumption) (by assumption) rfl (word_bound hu hb i) (depth_le hdp (by decide)) (unit_le hun (by decide)) ?_)
        intro t' h' tk' F' N'
        k_steps
        rw [range_snoc]
        exact hys.append (.cons .nil)
      case done3 =>
        rintro zs hzs
        have hmz : md.toArray.size = 5 := by rw [List.size_toArray, hmd'.length, made_len, hr]
        rw [hmz, words_eq u nr (by omega)] at hzs
        k_steps
        refine Hold.out (ne_bytesL_same (isList_of (by assumption) (by k_mem)) (isList_of (by assumption) (by k_mem)) hws hzs (unit_lt hun (by decide)) ?_)
        k_steps
        k_dflt refine Hold.out (fodd_at (ns := ns) (n := n) (by assumption) (by assumption) (by assumption) (by assumption) (by assumption) rfl (by k_mem) hIs hs hn (depth_le hdp (by decide)) (unit_le hun (by decide)) ?_)
        intro t' h' tk' F' N'
        rw [hfo]
        k_steps
        refine Hold.out (LCg.CompSrc.ledger rfl (by assumption) (by assumption) (by k_mem) (by rw [hmz]; decide) (fun g => ?_))
        refine comp_inv (n := md.toArray.size) (fun i ys => SAre ys (((made nr).take i).map fun x => marks x ++ [sg])) ?turn4 ?done4 _ 0 [] (Nat.zero_add _) SAre.nil
        case turn4 =>
          rintro i ys v I oI C oC D m₂ h tk E' hi hys hv0 hC hv F N off ne
          obtain ⟨tv, rfl, hi'⟩ := IntsAre.at' hmd' i v (by simpa using hv0)
          have hx := getD_in (made_in hb (by decide)) (by decide) i
          k_steps
          refine Hold.out (add_eq (List.replicate ((made nr).getD i 0).toNat 34) [sg] rfl rfl (by rw [List.length_replicate]; show _ + 1 ≤ _; omega) ?_)
          intro t' k'
          k_steps
          rw [take_snoc _ 0 hi', List.map_append]
          exact hys.append (.cons .nil)
        case done4 =>
          rintro qs hqs
          rw [hmz, List.take_of_length_le (by rw [made_len]; omega)] at hqs
          k_steps
          refine Hold.out (join_quoted (B := 8) (by decide) (by assumption) (by k_mem) hqs (made_in hb (by decide)) (by rw [made_len, hr]; decide) ?_)
          intro t' k'
          have hql := quoted_len sg (B := 8) (made_in hb (by decide))
          rw [made_len, hr] at hql
          k_steps
          refine Hold.out (add_eq [50, 53, 55, 32, 34] (quoted sg (made nr)) (by decide) rfl (by show 5 + _ ≤ _; omega) ?_)
          intro t' k'
          have hu2 : 0 ≤ u.fmod 2 ∧ u.fmod 2 ≤ 1 := by rw [fmod2]; omega
          k_steps
          refine Hold.out (add_eq ([50, 53, 55, 32, 34] ++ quoted sg (made nr)) (List.replicate (u.fmod 2).toNat 34) rfl rfl (by rw [List.length_append, List.length_replicate]; show (5 + _) + _ ≤ _; omega) ?_)
          intro t' k'
          k_steps
          k_dflt refine Hold.out (parse_at (d := 32) (e := 34) (body := quoted sg (made nr) ++ List.replicate (u.fmod 2).toNat 34) (by assumption) (by assumption) (by assumption) (by assumption) (by assumption) rfl ⟨by simp, by rw [S_len]; simp only [List.length_append, List.length_cons, List.length_nil, List.length_replicate]; omega⟩ (depth_le hdp (by decide)) (unit_le hun (by decide)) ?_)
          intro t' h' tk' F' N'
          rw [told_law hsg.2 _ (by omega) (made_nonneg nr)]
          have hf5 := fstOdd_le (made nr)
          rw [made_len, hr] at hf5
          generalize hf : fstOdd (made nr) = f at *
          k_steps
          rename IntsAre _ (List.take _ _) => hI5
          have hf1 : ((f : Int) + 1).toNat = f + 1 := by omega
          rw [hf1] at hI5
          have hl5 : ((made nr ++ [0]).take (f + 1)).length = f + 1 := by rw [List.length_take, List.length_append, made_len, hr]; simp; omega
          have hb5 : ∀ x ∈ (made nr ++ [0]).take (f + 1), 0 ≤ x ∧ x < 8 := by
            intro x hx
            rcases List.mem_append.mp (List.mem_of_mem_take hx) with hx | hx
            · exact made_in hb (by decide) x hx
            · have : x = 0 := by simpa using hx
              omega
          refine Hold.out (LCg.CompSrc.ledger rfl (by assumption) (by assumption) (by k_mem) (by rw [List.size_toArray, hI5.length, hl5, sizeLine_eq]; omega) (fun g => ?_))
          refine comp_inv (n := _) (fun i ys => SAre ys ((((made nr ++ [0]).take (f + 1)).take i).map half)) ?turn5 ?done5 _ 0 [] (Nat.zero_add _) SAre.nil
          case turn5 =>
            rintro i ys v I oI C oC D m₂ h tk E' hi hys hv0 hC hv F N off ne
            obtain ⟨tv, rfl, hi'⟩ := IntsAre.at' hI5 i v (by simpa using hv0)
            have hx := getD_in hb5 (by decide) i
            have hx2 : 0 ≤ (((made nr ++ [0]).take (f + 1)).getD i 0).fdiv 2 ∧ (((made nr ++ [0]).take (f + 1)).getD i 0).fdiv 2 < 8 := by rw [fdiv2]; omega
            k_steps
            rw [take_snoc _ 0 hi', List.map_append]
            exact hys.append (.cons .nil)
          case done5 =>
            rintro ps hps
            have hz5 : ∀ {vs : List Value}, IntsAre vs ((made nr ++ [0]).take (f + 1)) → vs.toArray.size = f + 1 := fun h => by rw [List.size_toArray, h.length, hl5]
            rw [hz5 hI5, List.take_of_length_le (by omega)] at hps
            k_steps
            have hsum := half_sum (B := 8) hb5
            rw [hl5] at hsum
            refine Hold.out (join_eq [sg] rfl (by assumption) (by k_mem) hps ?_ ?_)
            · rw [List.length_map, hl5]
              show _ + (f + 1) * 1 ≤ _
              omega
            intro t' k'
            k_steps
            refine Hold.out (ne_same ?_)
            k_steps
            · rename (f : Int) = 5 => hf6
              have hf7 : fstOdd (made nr) = (made nr).length := by rw [made_len, hr, hf]; omega
              refine Hold.out (split_S (ps := (made nr).map half ++ [[]]) (by rw [← hf, hf7]; exact tells_all sg _) (by simp) (half_free hsg.2 _) (by assumption) (by assumption) ?_ ?_)
              · have h1 := glue_len sg (((made nr ++ [0]).take (f + 1)).map half)
                rw [List.length_map, hl5] at h1
                unfold tells
                omega
              intro D6 vs6 h6 k6 hps6 F6 N6 lt6
              k_steps
              have hz6 : vs6.toArray.size = 6 := by rw [List.size_toArray, hps6.length, List.length_append, List.length_map, made_len, hr]; rfl
              refine Hold.out (LCg.CompSrc.ledger rfl (by assumption) (by assumption) (by k_mem) (by rw [hz6]; decide) (fun g => ?_))
              refine comp_inv (n := _) (fun i ys => IntsAre ys ((((made nr).map half ++ [[]]).take i).map fun p : List Nat => (p.length : Int))) ?turn6 ?done6 _ 0 [] (Nat.zero_add _) IntsAre.nil
              case turn6 =>
                rintro i ys v I oI C oC D m₂ h tk E' hi hys hv0 hC hv F N off ne
                obtain ⟨p, tv, rfl, hi'⟩ := SAre.get hps6 i v (by simpa using hv0)
                k_steps
                refine Hold.out (len_S ?_ ?_)
                · have := half_small (B := 8) (made_in hb (by decide)) p (List.mem_of_getElem? hi')
                  omega
                intro t' k'
                k_steps
                rw [List.take_add_one, hi', List.map_append]
                exact hys.append (.cons _ _ .nil)
              case done6 =>
                rintro ks hks
                rw [hz6, List.take_of_length_le (by rw [List.length_append, List.length_map, made_len, hr]; decide)] at hks
                k_steps
                rename IntsAre _ (List.take _ _) => hI7
                have e5 := half_lens _ (made_nonneg nr)
                rw [made_len, hr] at e5
                rw [e5] at hI7
                rename News _ _ _ _ => NN
                refine ret_pair hq (by assumption) NN (by k_mem) ?_ (by unfold nextRing; rw [if_pos (by rw [hf7, made_len])]; exact hI7) (by rw [if_pos (by rw [← hf, hf7, made_len])])
                intro p hp
                simp only [List.mem_cons] at hp ⊢
                rcases hp with hp | hp | hp <;> simp [hp]
            · rename ¬ (f : Int) = 5 => hf6
              have hf7 : ¬ fstOdd (made nr) = nr.length := by rw [hf, hr]; omega
              rename News _ _ _ _ => NN
              refine ret_pair hq (by assumption) NN (by k_mem) ?_ (by unfold nextRing; rw [if_neg hf7]; exact hmd') (by rw [if_neg (by rw [← hf]; exact hf7)])
              intro p hp
              simp only [List.mem_cons] at hp ⊢
              rcases hp with hp | hp | hp <;> simp [hp]
end Mine
namespace Mine
open PySem.Spec PySem.Calls
open LCg
section
variable {prog : Program} {w : World} {A : Around} {E : Value → Shared → Prop} {s : Shared} {h₀ : Heap} {L : Addr} {m : Str → Option Value} {env : Env}
theorem news_two {h h' : Heap} {e it : Addr} {news : List (Addr × Obj)} (N : News h₀ L h news) (hk : ∀ b o, b ∉ [e, it] → h.get? b = some o → h'.get? b = some o) (off : ∀ p ∈ news, p.1 ≠ e ∧ p.1 ≠ it) : News h₀ L h' news :=
  fun p hp => ⟨hk _ _ (by have := off p hp; simp [this.1, this.2]) (N p hp).1, (N p hp).2⟩
theorem fr_two {h h' : Heap} {e it : Addr} (F : Fr h₀ L h m) (hk : ∀ b o, b ∉ [e, it] → h.get? b = some o → h'.get? b = some o) (h1 : L ≠ e) (h2 : L ≠ it) (h3 : h₀.get? e = none) (h4 : h₀.get? it = none) : Fr h₀ L h' m :=
  ⟨F.ns.at' fun o x => hk L o (by simp [h1, h2]) x, fun b o x => hk b o (by
    intro hm
    simp only [List.mem_cons, List.not_mem_nil, or_false] at hm
    rcases hm with rfl | rfl
    · rw [h3] at x; cases x
    · rw [h4] at x; cases x) (F.keep b o x), F.above⟩
def EnumTurn (prog : Program) (w : World) (A : Around) (h₀ : Heap) (L : Addr) (m : Str → Option Value) (env : Env) (elt : Expr) (x x₂ : Str) (scope : Scope) (cl : List (Str × Addr)) (s : Shared) (items : Array Value) (led : List (Addr × Obj)) (J : Nat → List Value → Prop) : Prop :=
  ∀ (i : Nat) (ys : List Value) (v : Value) (t : Tok) (e : Addr) (oe : Obj) (it : Addr) (oi : Obj) (C : Addr) (oC : Obj) (D : Addr) (m₂ : Str → Option Value) (h : Heap) (tk : Nat) (E' : Value → Shared → Prop), J i ys → items[i]? = some v → NsObj oC m₂ → m₂ x = some (.int i t) → m₂ x₂ = some v → Fr h₀ L h m →
    News h₀ L h ((e, oe) :: (C, oC) :: (D, lst ys) :: (it, oi) :: led) → Off3 e C D ((it, oi) :: led) → ((@Ne Nat e C) ∧ (@Ne Nat e D) ∧ (@Ne Nat C D)) →
    wpAny (model prog w) A (eval elt (compEnvC scope cl C env)) (CompEnd h₀ L m { s with heap := h, toks := tk } e oe C oC D (lst ys) (fun _ => True) (fun y news' => news' = (it, oi) :: led ∧ J (i + 1) (ys ++ [y]))) E' { s with heap := h, toks := tk }
theorem block_E {elt iter : Expr} {x x₂ : Str} {px px₂ tp : Pos} {tk} {scope : Scope} {cl : List (Str × Addr)} {pos : Pos} {s₂ : Shared} {e it l : Addr} {us : List Value} {c : Nat} {led : List (Addr × Obj)} {J : Nat → List Value → Prop} {RR : Value → Addr → Result → Shared → Prop}
    (hh : A.handled = none) (hsz : us.length ≤ sizeLine) (hcell : ∀ y ∈ scope.names, y.2 ≠ .cell) (hkind : scope.kind = .function) (hx : scope.names.lookup x = some .local) (hx₂ : scope.names.lookup x₂ = some .local) (hxx : x ≠ x₂)
    (F : Fr h₀ L s₂.heap m) (N : News h₀ L s₂.heap led) (hm : (l, listOf us.toArray c) ∈ led) (he : IsEnum s₂.heap e it 0 .none) (hi : s₂.heap.IsListIter it l 0) (hei : e ≠ it) (off : ∀ p ∈ led, p.1 ≠ e ∧ p.1 ≠ it) (he₀ : h₀.get? e = none) (hi₀ : h₀.get? it = none) (hLe : L ≠ e) (hLi : L ≠ it)
    (hJ : J 0 []) (turn : EnumTurn prog w A h₀ L m env elt x x₂ scope cl s₂ us.toArray led J)
    (hRR : ∀ D C h tk m' ys, Fr h₀ L h m → News h₀ L h ((D, lst ys) :: led) → Off1 D led → h.Ns C m' → h₀.get? C = none → h₀.get? D = none → C ≠ L → D ≠ L → C ≠ D → (∀ p ∈ led, p.1 ≠ C) → J us.length ys → RR (.ref D) C (.ok .next) { s₂ with heap := h, toks := tk }) :
    wpAny (model prog w) A (newList []) (fun acc s₃ => wpAny (model prog w) A (newFunctionEnv scope env.globals cl [] env.qual none .none (some env)) (fun cenv s₄ =>
      codeAny (model prog w) A (.compStart (.ListComp elt [⟨.Tuple [.Name x px, .Name x₂ px₂] tk tp, iter, [], 0⟩] scope pos) 0 (.ref e) acc { cenv with scope := relabel scope env }) (RR acc cenv.locals) s₄) E s₃) E s₂ := by
  have hl : s₂.heap.IsList l us.toArray := ⟨_, (N _ hm).1, rfl, c, rfl⟩
  have hle : l ≠ e := (off _ hm).1
  have hli : l ≠ it := (off _ hm).2
  have W := WalksT.enumerate (prog := prog) (w := w) hh e it l hei hle hli us.toArray
  have hussz : us.toArray.size = us.length := by simp
  have hfp : ∀ b ∈ [e, it, l], b < s₂.heap.objs.size := by
    intro b hb
    simp only [List.mem_cons, List.not_mem_nil, or_false] at hb
    rcases hb with rfl | rfl | rfl
    · exact Heap.lt_size he
    · obtain ⟨_, q, _⟩ := hi; exact Heap.lt_size q
    · exact Heap.lt_size (N _ hm).1
  refine wpAny_newObj_type (wpAny_newFunctionEnv hcell (by intro y hy; simp at hy) (fun h₁ hns₁ hsb₁ => ?_) hkind)
  dsimp only at hns₁ hsb₁ ⊢
  generalize hH2 : s₂.heap.push { cls := .type "list", dict := none, data := .seq ([] : List Value).toArray } = H2 at hns₁ hsb₁ ⊢
  have hC : H2.objs.size = s₂.heap.objs.size + 1 := by rw [← hH2, Heap.size_push]
  have hDC : s₂.heap.objs.size ≠ H2.objs.size := by rw [hC]; exact Nat.ne_of_lt (Nat.lt_succ_self _)
  have below : ∀ b, b < s₂.heap.objs.size → b ≠ H2.objs.size ∧ b ≠ s₂.heap.objs.size := fun b hb => ⟨by rw [hC]; exact Nat.ne_of_lt (Nat.lt_succ_of_lt hb), Nat.ne_of_lt hb⟩
  have old : ∀ b o, s₂.heap.get? b = some o → h₁.get? b = some o := fun b o q => hsb₁.extBut b o (below b (Heap.lt_size q)).1 (Heap.get?_push_of_some _ (hH2 ▸ Heap.get?_push_of_some _ q))
  have hacc : h₁.get? s₂.heap.objs.size = some (lst []) := hsb₁.extBut _ _ hDC (Heap.get?_push_of_some _ (hH2 ▸ Heap.get?_push_size _ rfl))
  have fresh : ∀ a, s₂.heap.objs.size ≤ a → s₂.heap.get? a = none := fun a ha => by
    cases q : s₂.heap.get? a with
    | none => rfl
    | some o' => exact absurd (Heap.lt_size q) (Nat.not_lt.mpr ha)
  have fresh₀ : ∀ a, s₂.heap.objs.size ≤ a → h₀.get? a = none := fun a ha => by
    cases q : h₀.get? a with
    | none => rfl
    | some o' => have := F.keep a o' q; rw [fresh a ha] at this; cases this
  have hD₀ : h₀.get? s₂.heap.objs.size = none := fresh₀ _ (Nat.le_refl _)
  have hC₀ : h₀.get? H2.objs.size = none := fresh₀ _ (by rw [hC]; exact Nat.le_succ _)
  have hLlt : L < s₂.heap.objs.size := F.ns.lt
  have hDL : s₂.heap.objs.size ≠ L := Ne.symm (below L hLlt).2
  have hCL : H2.objs.size ≠ L := Ne.symm (below L hLlt).1
  have belowfp : ∀ b ∈ [e, it, l], b ≠ H2.objs.size ∧ b ≠ s₂.heap.objs.size := fun b hb => below b (hfp b hb)
  have hst₁ : (∃ old, IsEnum h₁ e it (0 : Nat) old) ∧ h₁.IsListIter it l 0 ∧ h₁.IsList l us.toArray := W.frame 0 _ _ ⟨⟨_, he⟩, hi, hl⟩ fun b _ o q => old b o q
  have loop : ∀ s₃ : Shared, s₃ = { s₂ with heap := h₁, toks := s₂.toks + ([] : List (Str × Value)).length } →
      codeAny (model prog w) A (.compLoop (.ListComp elt [⟨.Tuple [.Name x px, .Name x₂ px₂] tk tp, iter, [], 0⟩] scope pos) 0 (.ref e) (.ref s₂.heap.objs.size) (compEnvC scope cl H2.objs.size env))
        (RR (.ref s₂.heap.objs.size) H2.objs.size) s₃ := by
    rintro s₃ rfl
    refine LCp.codeAny_compLoop_pair
      (fun k s' => ∃ h' tk i ys m', s' = { s₂ with heap := h', toks := tk } ∧ i ≤ us.length ∧ k = us.length + 1 - i ∧ ys.length = i ∧ ((∃ old, IsEnum h' e it (i : Nat) old) ∧ h'.IsListIter it l i ∧ h'.IsList l us.toArray) ∧ Fr h₀ L h' m ∧ h'.Ns H2.objs.size m' ∧ News h₀ L h' ((s₂.heap.objs.size, lst ys) :: led) ∧ J i ys) ?_ (us.length + 1)
      ⟨h₁, _, 0, [], _, rfl, Nat.zero_le _, rfl, rfl, hst₁, F.keeps old, hns₁, fun p hp => ?_, hJ⟩
    · rintro k s' ⟨h', tk, i, ys, m', rfl, hile, rfl, hyl, hst', F', hn', N', hJ'⟩
      have offD : ∀ p ∈ (s₂.heap.objs.size, lst ys) :: led, p.1 ≠ e ∧ p.1 ≠ it := fun p hp => by
        rcases List.mem_cons.mp hp with rfl | hp
        · exact ⟨Ne.symm (belowfp e (by simp)).2, Ne.symm (belowfp it (by simp)).2⟩
        · exact off p hp
      by_cases hlt : i < us.length
      · refine W.item i _ _ _ (by rw [hussz]; exact hlt) hst' fun T vals h₂ tk₂ hPv hsT hT hMid hk₂ => ?_
        obtain ⟨t, v, hv, rfl⟩ := hPv
        have hTw : T ∉ [e, it] := W.apart i T h₂ hMid
        refine W.go _ _ _ i T _ _ _ hMid fun h₃ hst₃ hk₃ => ?_
        have hT₃ : IsTup h₃ T #[.int i t, v] := by
          obtain ⟨o, q1, q2, n, q3⟩ := hT
          exact ⟨o, hk₃ T o hTw q1, q2, n, q3⟩
        have keep2 : ∀ b o, b ∉ [e, it] → h'.get? b = some o → h₃.get? b = some o := fun b o hb q => hk₃ b o hb (hk₂ b o hb q)
        have N₃ := news_two N' keep2 offD
        have F₃ := fr_two F' keep2 hLe hLi he₀ hi₀
        have hn₃ : h₃.Ns H2.objs.size m' := hn'.at' fun o q => keep2 _ o (by
          have h1 := (belowfp e (by simp)).1
          have h2 := (belowfp it (by simp)).1
          simp [Ne.symm h1, Ne.symm h2]) q
        refine assign_Tuple_tuple hh hT₃ rfl rfl fun h₅ hk₅ => ?_
        have hk₅' : ∀ b o, h₃.get? b = some o → h₅.get? b = some o := fun b o q => hk₅ b o (Nat.ne_of_lt (Heap.lt_size q)) q
        refine assignInOrder_cons (wpAny_assign_Name (wpAny_storeName_local (lookup_relabel_local hx) (hn₃.at' fun o q => hk₅' _ o q) (fun h₆ hn₆ hs₆ => ?_) (by simp [compEnvC, relabel, hkind])))
        refine assignInOrder_cons (wpAny_assign_Name (wpAny_storeName_local (lookup_relabel_local hx₂) hn₆ (fun h₇ hn₇ hs₇ => ?_) (by simp [compEnvC, relabel, hkind])))
        refine assignInOrder_nil ?_
        have keep7 : ∀ b o, b ≠ H2.objs.size → h₃.get? b = some o → h₇.get? b = some o := fun b o hb q => hs₇.extBut b o hb (hs₆.extBut b o hb (hk₅' b o q))
        have hst₇ := W.frame (i + 1) _ h₇ hst₃ fun b hb o q => keep7 b o (belowfp b hb).1 q
        obtain ⟨⟨ov, hE₇⟩, hI₇, hL₇⟩ := id hst₇
        obtain ⟨oi, hoi, hI₇'⟩ := id hI₇
        obtain ⟨oC, heC, hoC⟩ := ns_obj hn₇
        have F₇ : Fr h₀ L h₇ m := ((F₃.keeps hk₅').change hs₆ hCL hC₀).change hs₇ hCL hC₀
        have N₇ : News h₀ L h₇ ((s₂.heap.objs.size, lst ys) :: led) := fun p hp => by
          refine ⟨keep7 _ _ ?_ (N₃ p hp).1, (N₃ p hp).2⟩
          rcases List.mem_cons.mp hp with rfl | hp
          · exact hDC
          · exact (below _ (Heap.lt_size (N p hp).1)).1
        have hoff : Off3 e H2.objs.size s₂.heap.objs.size ((it, oi) :: led) := Off3.of fun p hp => by
          rcases List.mem_cons.mp hp with rfl | hp
          · exact ⟨Ne.symm hei, (belowfp it (by simp)).1, (belowfp it (by simp)).2⟩
          · exact ⟨(off p hp).1, (below _ (Heap.lt_size (N p hp).1)).1, (below _ (Heap.lt_size (N p hp).1)).2⟩
        refine wpAny_mono (turn i ys v t e { cls := .type "enumerate", dict := none, data := .fields #[.none, .bool false, .ref it, rawInt ((i + 1 : Nat) : Int), .none, ov], slots := #[] } it oi H2.objs.size oC s₂.heap.objs.size _ h₇ _ _ hJ' hv hoC (by simp [hxx]) (by simp) F₇ (fun p hp => ?_) hoff ⟨(belowfp e (by simp)).1, (belowfp e (by simp)).2, Ne.symm hDC⟩) (fun y s₄ h₄ => ?_) fun _ _ q => q
        · rcases List.mem_cons.mp hp with rfl | hp
          · exact ⟨hE₇, Ne.symm hLe, he₀⟩
          · rcases List.mem_cons.mp hp with rfl | hp
            · exact ⟨heC, hCL, hC₀⟩
            · rcases List.mem_cons.mp hp with rfl | hp
              · exact N₇ _ List.mem_cons_self
              · rcases List.mem_cons.mp hp with rfl | hp
                · exact ⟨hoi, Ne.symm hLi, hi₀⟩
                · exact N₇ p (List.mem_cons_of_mem _ hp)
        obtain ⟨h₄, tk₄, news₄, rfl, F₄, N₄, off₄, _, rfl, hJ₄⟩ := h₄
        have zE := (N₄ (e, _) List.mem_cons_self).1
        have zC := (N₄ (H2.objs.size, oC) (by simp)).1
        have zD := (N₄ (s₂.heap.objs.size, lst ys) (by simp)).1
        have zI := (N₄ (it, oi) (by simp)).1
        have N₄' : News h₀ L h₄ led := fun p hp => N₄ p (by simp [hp])
        have hst₄ : (∃ old, IsEnum h₄ e it ((i + 1 : Nat) : Int) old) ∧ h₄.IsListIter it l (i + 1) ∧ h₄.IsList l us.toArray := ⟨⟨_, zE⟩, ⟨oi, zI, hI₇'⟩, ⟨_, (N₄' _ hm).1, rfl, c, rfl⟩⟩
        refine append_at (hsz := by show ys.toArray.size ≤ sizeLine; rw [List.size_toArray, hyl]; exact Nat.le_trans hile hsz) zD fun h₅ hs₅ hD₅ => ?_
        have hDfp : ∀ b ∈ [e, it, l], b ≠ s₂.heap.objs.size := fun b hb => (belowfp b hb).2
        refine ⟨us.length + 1 - (i + 1), by omega, h₅, tk₄, i + 1, ys ++ [y], _, rfl, hlt, rfl, by rw [List.length_append, List.length_singleton, hyl], W.frame (i + 1) _ _ hst₄ fun b hb o q => hs₅.extBut b o (hDfp b hb) q, F₄.change hs₅ hDL hD₀,
          (hoC.ns zC).sameBut hs₅ (Ne.symm hDC), fun p hp => ?_, hJ₄⟩
        rcases List.mem_cons.mp hp with rfl | hp
        · exact ⟨hD₅.trans (congrArg some (lst_snoc ys y)), hDL, hD₀⟩
        · exact ⟨hs₅.extBut _ _ (below _ (Heap.lt_size (N p hp).1)).2 (N₄' p hp).1, (N₄' p hp).2⟩
      · have hin : i = us.length := Nat.le_antisymm hile (Nat.not_lt.mp hlt)
        subst hin
        refine W.done _ _ _ (by rw [hussz]; exact hst') fun h₂ tk₂ hk₂ => ?_
        have N₂ := news_two N' hk₂ offD
        refine hRR _ _ h₂ tk₂ _ ys (fr_two F' hk₂ hLe hLi he₀ hi₀) N₂ ?_ (hn'.at' fun o q => hk₂ _ o (by
          have h1 := (belowfp e (by simp)).1
          have h2 := (belowfp it (by simp)).1
          simp [Ne.symm h1, Ne.symm h2]) q) hC₀ hD₀ hCL hDL (Ne.symm hDC) (fun p hp => (below _ (Heap.lt_size (N p hp).1)).1) hJ'
        exact Off3.one (I := e) (C := H2.objs.size) (Off3.of fun p hp => ⟨(off p hp).1, (below _ (Heap.lt_size (N p hp).1)).1, (below _ (Heap.lt_size (N p hp).1)).2⟩)
    · rcases List.mem_cons.mp hp with rfl | hp
      · exact ⟨hacc, hDL, hD₀⟩
      · exact ⟨old _ _ (N p hp).1, (N p hp).2⟩
  obtain ⟨⟨ov, hE₁⟩, _, _⟩ := id hst₁
  exact codeAny_compStart_list (loop _ rfl) (wpAny_pyIter_enum hE₁ (loop _ rfl))
def SrcE (prog : Program) (w : World) (A : Around) (h₀ : Heap) (L : Addr) (m : Str → Option Value) (env : Env) (elt : Expr) (x x₂ : Str) (scope : Scope) (cl : List (Str × Addr)) (Fin : Shared → List Value → List (Addr × Obj) → Prop) (xv : Value) (s₁ : Shared) : Prop :=
  ∃ (e it l : Addr) (us : List Value) (c : Nat) (led : List (Addr × Obj)) (J : Nat → List Value → Prop), xv = .ref e ∧ A.handled = none ∧ us.length ≤ sizeLine ∧ Fr h₀ L s₁.heap m ∧ News h₀ L s₁.heap led ∧ (l, listOf us.toArray c) ∈ led ∧ IsEnum s₁.heap e it 0 .none ∧ s₁.heap.IsListIter it l 0 ∧ e ≠ it ∧ (∀ p ∈ led, p.1 ≠ e ∧ p.1 ≠ it) ∧
    h₀.get? e = none ∧ h₀.get? it = none ∧ L ≠ e ∧ L ≠ it ∧ J 0 [] ∧ (∀ s₂ : Shared, (∃ h, s₂ = { s₁ with heap := h }) → EnumTurn prog w A h₀ L m env elt x x₂ scope cl s₂ us.toArray led J ∧ ∀ ys, J us.length ys → Fin s₂ ys led)
/-- the call of enumerate over a list of the ledger -/
theorem call_enum {l : Addr} {us : List Value} {c : Nat} {led : List (Addr × Obj)} {Q : Value → Shared → Prop} (F : Fr h₀ L s.heap m) (N : News h₀ L s.heap led) (hm : (l, listOf us.toArray c) ∈ led)
    (h : ∀ e it h', e ≠ it → IsEnum h' e it 0 .none → h'.IsListIter it l 0 → Fr h₀ L h' m → News h₀ L h' led → (∀ p ∈ led, p.1 ≠ e ∧ p.1 ≠ it) → h₀.get? e = none → h₀.get? it = none → L ≠ e → L ≠ it → Q (.ref e) { s with heap := h' }) :
    wpAny (model prog w) A (call (.type "enumerate") [.ref l]) Q E s := by
  refine call_enumerate_list (isList_of N hm) fun h' he hi hz hk => ?_
  have fresh₀ : ∀ a, s.heap.objs.size ≤ a → h₀.get? a = none := fun a ha => by
    cases q : h₀.get? a with
    | none => rfl
    | some o' => exact absurd (Heap.lt_size (F.keep a o' q)) (Nat.not_lt.mpr ha)
  exact h _ _ h' (Nat.succ_ne_self _) he hi (F.keptAll hk) (fun p hp => ⟨hk _ _ (N p hp).1, (N p hp).2⟩)
    (fun p hp => ⟨Nat.ne_of_lt (Nat.lt_succ_of_lt (Heap.lt_size (N p hp).1)), Nat.ne_of_lt (Heap.lt_size (N p hp).1)⟩) (fresh₀ _ (Nat.le_succ _)) (fresh₀ _ (Nat.le_refl _)) (Nat.ne_of_lt (Nat.lt_succ_of_lt F.ns.lt)) (Nat.ne_of_lt F.ns.lt)
theorem Assign_ListComp_E {elt iter : Expr} {x x₂ y : Str} {px px₂ tp py : Pos} {tk} {scope : Scope} {cl : List (Str × Addr)} {pos spos : Pos} {Q : Flow → Shared → Prop} (F₀ : Fr h₀ L s.heap m) (hLe : env.locals = L)
    (hsw : swapsWith (.ListComp elt [⟨.Tuple [.Name x px, .Name x₂ px₂] tk tp, iter, [], 0⟩] scope pos) (some (.Name y py)) spos.line env = pure true)
    (hclos : closureFor scope env = pure cl) (hcell : ∀ z ∈ scope.names, z.2 ≠ .cell) (hkind : scope.kind = .function)
    (hnames : ∀ z ∈ scope.names, z.2 = .local → scope.names.lookup z.1 = some .local) (hx : scope.names.lookup x = some .local) (hx₂ : scope.names.lookup x₂ = some .local) (hxx : x ≠ x₂)
    (hy : env.kindOf y = some .local) (hp : (env.scope.kind == .class || (env.scope.kind == .module && env.locals != env.globals)) = false)
    (h : wpAny (model prog w) A (eval iter env) (SrcE prog w A h₀ L m env elt x x₂ scope cl (fun s₂ => FinA h₀ L m s₂ y Q)) E s)
    (hs : ∀ x, foldedSetIterable iter env x = pure x := by intro _; rfl) :
    wpAny (model prog w) A (exec (.Assign [.Name y py] (.ListComp elt [⟨.Tuple [.Name x px, .Name x₂ px₂] tk tp, iter, [], 0⟩] scope pos) spos) env) Q E s := by
  subst hLe
  rw [exec_Assign_Name_used _ _ _ _ hsw]
  refine wpAny_bind (wpAny_standAt (wpAny_bind ?_))
  show wpAny _ A (do let _ ← comprehension (.ListComp elt [⟨.Tuple [.Name x px, .Name x₂ px₂] tk tp, iter, [], 0⟩] scope pos) scope env _ (newList []) false (eval iter env) (some (assign (.Name y py) env))) _ _ s
  refine wpAny_bind (wpAny_mono (wpAny_comprehension_free (use := some (assign (.Name y py) env)) (Q := fun _ s' => Q .next s') rfl hs hclos hkind hnames
    (wpAny_mono h (fun xv s₁ h₁ => ?_) fun _ _ e => e)) (fun _ s' hq => wpAny_pure (wpAny_pure hq)) fun _ _ e => e)
  obtain ⟨e, it, l, us, c, led, J, rfl, hh, hsz, F, N, hm, he, hi, hei, off, he₀, hi₀, hLe, hLi, hJ, R⟩ := h₁
  refine wpAny_pyIter_enum he ?_
  obtain ⟨turn, fin⟩ := R s₁ ⟨_, rfl⟩
  refine block_E hh hsz hcell hkind hx hx₂ hxx F N hm he hi hei off he₀ hi₀ hLe hLi hJ turn ?_
  intro D C h' tk m' ys F' N' o1 hn hC₀ hD₀ hCL hDL hCD offC hJ'
  have fin := fin ys hJ'
  show wpAny _ A (assign (.Name y py) env (.ref D)) _ _ _
  refine wpAny_assign_Name (wpAny_storeName_local hy F'.ns (fun h₂ hn₂ hs₂ => ?_) hp)
  have hL₀ : h₀.get? env.locals = none := Heap.get?_none_of_le F'.above
  have F₂ : Fr h₀ env.locals h₂ (fun z => if z = y then some (.ref D) else m z) := ⟨hn₂, fun b o e => hs₂.extBut b o (fun q => by rw [q, hL₀] at e; cases e) (F'.keep b o e), F'.above⟩
  refine ⟨m', hn.sameBut hs₂ hCL, fun h'' hs'' => fin D h'' _ (F₂.change hs'' hCL hC₀) (fun p hp => ?_) o1⟩
  have z : h₂.get? p.1 = some p.2 := hs₂.extBut _ _ (N' p hp).2.1 (N' p hp).1
  refine ⟨hs''.extBut _ _ ?_ z, (N' p hp).2⟩
  rcases List.mem_cons.mp hp with rfl | hp
  · exact Ne.symm hCD
  · exact offC p hp
end
end Mine
namespace Mine
/-- numbers from 0 below B, i of them -/
def InRing (B : Int) (i : Nat) (ys : List Value) : Prop := ∃ zs, IntsAre ys zs ∧ zs.length = i ∧ ∀ z ∈ zs, 0 ≤ z ∧ z < B
theorem InRing.nil {B : Int} : InRing B 0 [] := ⟨[], .nil, rfl, by simp⟩
theorem InRing.snoc {B : Int} {i : Nat} {ys : List Value} {x : Int} {t : Tok} (h : InRing B i ys) (hB : 0 < B) : InRing B (i + 1) (ys ++ [.int (x.fmod B) t]) := by
  obtain ⟨zs, hzs, hzl, hzb⟩ := h
  refine ⟨_, hzs.append (.cons _ _ .nil), by simp [hzl], ?_⟩
  intro z hz
  rcases List.mem_append.mp hz with hz | hz
  · exact hzb z hz
  · obtain rfl : z = x.fmod B := by simpa using hz
    exact ⟨Int.fmod_nonneg_of_pos _ hB, Int.fmod_lt_of_pos _ hB⟩
theorem sign_in (x : Int) : 0 ≤ (35 + x.fmod 127).fmod 128 ∧ (35 + x.fmod 127).fmod 128 < 128 ∧ (35 + x.fmod 127).fmod 128 ≠ 34 := by
  have h1 := Int.fmod_nonneg_of_pos x (b := 127) (by decide)
  have h2 := Int.fmod_lt_of_pos x (b := 127) (by decide)
  generalize x.fmod 127 = y at *
  rw [Int.fmod_eq_emod_of_nonneg _ (by decide)]
  omega
/-- the greatest of numbers from 0 on -/
def topOf : List Int → Int
  | [] => 0
  | x :: r => if x < topOf r then topOf r else x
theorem topOf_nonneg : ∀ {r : List Int}, (∀ x ∈ r, 0 ≤ x) → 0 ≤ topOf r
  | [], _ => Int.le_refl _
  | x :: r, h => by
    have h1 := h x (.head _)
    have h2 := topOf_nonneg fun y hy => h y (.tail x hy)
    unfold topOf; split <;> omega
theorem le_topOf : ∀ {r : List Int}, ∀ x ∈ r, x ≤ topOf r
  | y :: r, x, h => by
    have := le_topOf (r := r)
    rcases List.mem_cons.mp h with rfl | h
    · unfold topOf; split <;> omega
    · have := this x h
      unfold topOf; split <;> omega
theorem topOf_mem : ∀ {r : List Int}, r ≠ [] → (∀ x ∈ r, 0 ≤ x) → topOf r ∈ r
  | [x], _, h => by
    have := h x (.head _)
    unfold topOf topOf
    rw [if_neg (by omega)]; exact .head _
  | x :: y :: r, _, h => by
    have ih := topOf_mem (r := y :: r) (by simp) fun z hz => h z (.tail x hz)
    unfold topOf
    split
    · exact .tail _ ih
    · exact .head _
theorem topOf_eq {r : List Int} {M : Int} (h : ∀ x ∈ r, 0 ≤ x) (h1 : M ∈ r) (h2 : ∀ x ∈ r, x ≤ M) : M = topOf r := by
  have a := le_topOf M h1
  have b := h2 _ (topOf_mem (by intro e; subst e; cases h1) h)
  omega
def betw (r : List Int) : List Int := r.filter fun x => decide (0 < x ∧ x < topOf r)
def code (r : List Int) : Int := (((List.range 4).filter fun k => decide (0 < r.getD k 0)).map fun k => (8 : Int) / 2 ^ k).sum
structure PSt where
  ring : List Int
  start : List Int
  since : Nat
  words : List (Array UInt8)
def stepP (p : PSt) : PSt :=
  { ring := nextRing p.ring
    start := if fstOdd (made p.ring) = p.ring.length then nextRing p.ring else p.start
    since := if fstOdd (made p.ring) = p.ring.length then 0 else p.since + 1
    words := if betw (nextRing p.ring) = [] then p.words ++ [(word (code (nextRing p.ring)).natAbs).toArray] else p.words }
def run (z : List Int) : Nat → PSt
  | 0 => ⟨z, z, 0, []⟩
  | n + 1 => stepP (run z n)
theorem nextRing_len (r : List Int) : (nextRing r).length = r.length := by
  unfold nextRing; split <;> simp [made_len]
theorem nextRing_in {ns : List Int} {B : Int} (hb : ∀ x ∈ ns, 0 ≤ x ∧ x < B) (hB : 0 < B) : ∀ x ∈ nextRing ns, 0 ≤ x ∧ x < B := by
  unfold nextRing
  split
  · intro x hx
    obtain ⟨y, hy, rfl⟩ := List.mem_map.mp hx
    have := made_in hb hB y hy
    rw [fdiv2]; omega
  · exact made_in hb hB
theorem run_ring {z : List Int} {B : Int} (hb : ∀ x ∈ z, 0 ≤ x ∧ x < B) (hB : 0 < B) : ∀ n, (run z n).ring.length = z.length ∧ (∀ x ∈ (run z n).ring, 0 ≤ x ∧ x < B) ∧ (run z n).start.length = z.length
  | 0 => ⟨rfl, hb, rfl⟩
  | n + 1 => by
    obtain ⟨h1, h2, h3⟩ := run_ring hb hB n
    refine ⟨by rw [run, stepP, nextRing_len, h1], by rw [run, stepP]; exact nextRing_in h2 hB, ?_⟩
    rw [run, stepP]
    dsimp only
    split
    · rw [nextRing_len, h1]
    · exact h3
theorem run_since (z : List Int) : ∀ n, (run z n).since ≤ n
  | 0 => Nat.le_refl _
  | n + 1 => by
    have := run_since z n
    rw [run, stepP]
    dsimp only
    split <;> omega
theorem run_words (z : List Int) (n : Nat) : (run z n).words.length ≤ (run z (n + 1)).words.length ∧ (run z (n + 1)).words.length ≤ (run z n).words.length + 1 := by
  rw [run, stepP]
  dsimp only
  split <;> simp
theorem run_mono (z : List Int) (n k : Nat) : (run z n).words.length ≤ (run z (n + k)).words.length := by
  induction k with
  | zero => exact Nat.le_refl _
  | succ k ih => exact Nat.le_trans ih (run_words z (n + k)).1
def span (M m : Int) : Nat := ((if 4 * (M - m) - 3 > 1 then 4 * (M - m) - 3 else 1) + 14).toNat
/-- what the walk asks of the plain part: the names' Lucas -/
def AskA : Prop := ∀ zs : List Int, zs.length = 5 → (∀ z ∈ zs, 0 ≤ z ∧ z < 8) → ∀ j, fofrom 5 (run zs j).start ((run zs j).since + 1 : Nat) 5 0 = (fstOdd (made (run zs j).ring) : Int)
/-- and the end -/
def AskB : Prop := ∀ zs : List Int, zs.length = 5 → (∀ z ∈ zs, 0 ≤ z ∧ z < 8) → ∀ M m : Int, M ∈ zs → (∀ a ∈ zs, a ≤ M) → m ∈ zs → (∀ a ∈ zs, m ≤ a) →
  (∃ j, j < span M m ∧ 15 ≤ (run zs (j + 1)).words.length) ∧ ∀ j, (run zs j).words.length = 15 → if M - m > 0 then ∀ k : Nat, k < 15 → (#[(66 + k).toUInt8] : Array UInt8) ∈ (run zs j).words else (run zs j).words = List.replicate 15 #[]
structure LS where
  R : Addr
  S : Addr
  W : Addr
  vr : List Value
  vs : List Value
  vw : List Value
  cr : Nat
  cs : Nat
  cw : Nat
  oT : Obj
  oW : Obj
  oR : Obj
def LedL (L : Addr) (c : LS) : List (Addr × Obj) := [(c.R, listOf c.vr.toArray c.cr), (c.S, listOf c.vs.toArray c.cs), (c.W, listOf c.vw.toArray c.cw), (L + 1 + 1 + 1 + 1, c.oT), (L + 1 + 1 + 1, c.oW), (L + 1 + 1, c.oR)]
structure JL (zs : List Int) (N : Nat) (sg : Nat) (u sp : Int) (i : Int) (k : Nat) (c : LS) (m : Str → Option Value) : Prop where
  at0 : ∃ n : Nat, i = (n : Int) ∧ n + k = N ∧ (run zs n).words.length < 15 ∧ IntsAre c.vr (run zs n).ring ∧ IntsAre c.vs (run zs n).start ∧ BytesAre c.vw (run zs n).words ∧ ∃ t, m (Str.ofString "since") = some (.int ((run zs n).since : Int) t)
  ring : c.oR.data = .cell (some (.ref c.R))
  words : c.oW.data = .cell (some (.ref c.W))
  top : ∃ v, c.oT.data = .cell v
  start : m (Str.ofString "start") = some (.ref c.S)
  sign : ∃ t, m (Str.ofString "sign") = some (.str (S [sg]) t)
  unit : ∃ t, m (Str.ofString "unit") = some (.int u t)
  spread : ∃ t, m (Str.ofString "spread") = some (.int sp t)
theorem JL.of {L : Addr} {news : List (Addr × Obj)} {zs : List Int} {N sg : Nat} {u sp : Int} {n k : Nat} {m : Str → Option Value} {R S' W : Addr} {vr vs vw : List Value} {cr cs cw : Nat} {oT oW oR : Obj} {vt : Option Value} {ts tsg tu tsp : Tok} {x : Int} {h₀ h : Heap} (_F : Fr h₀ L h m) (_N : News h₀ L h news)
    (mT : (L + 1 + 1 + 1 + 1, oT) ∈ news) (dT : oT.data = .cell vt) (mW : (L + 1 + 1 + 1, oW) ∈ news) (dW : oW.data = .cell (some (.ref W))) (mWl : (W, listOf vw.toArray cw) ∈ news)
    (mR : (L + 1 + 1, oR) ∈ news) (dR : oR.data = .cell (some (.ref R))) (mRl : (R, listOf vr.toArray cr) ∈ news) (hstart : m (Str.ofString "start") = some (.ref S')) (mSl : (S', listOf vs.toArray cs) ∈ news)
    (hsince : m (Str.ofString "since") = some (.int x ts)) (hsign : m (Str.ofString "sign") = some (.str (S [sg]) tsg)) (hunit : m (Str.ofString "unit") = some (.int u tu)) (hspread : m (Str.ofString "spread") = some (.int sp tsp))
    (hx : x = ((run zs n).since : Int)) (hn : n + k = N) (hw : (run zs n).words.length < 15) (hr : IntsAre vr (run zs n).ring) (hs : IntsAre vs (run zs n).start) (hws : BytesAre vw (run zs n).words) :
    ∃ c : LS, JL zs N sg u sp (n : Int) k c m ∧ ∀ p ∈ LedL L c, p ∈ news := by
  subst hx
  refine ⟨⟨R, S', W, vr, vs, vw, cr, cs, cw, oT, oW, oR⟩, ⟨⟨n, rfl, hn, hw, hr, hs, hws, _, hsince⟩, dR, dW, ⟨_, dT⟩, hstart, ⟨_, hsign⟩, ⟨_, hunit⟩, ⟨_, hspread⟩⟩, ?_⟩
  intro p hp
  unfold LedL at hp
  simp only [List.mem_cons, List.not_mem_nil, or_false] at hp
  rcases hp with rfl | rfl | rfl | rfl | rfl | rfl <;> assumption
theorem list_ne_it {h₀ h : Heap} {L a I : Addr} {news : List (Addr × Obj)} {us : List Value} {c : Nat} {i : Int} {k : Nat} (N : News h₀ L h news) (h1 : (a, listOf us.toArray c) ∈ news) (h2 : (I, rangeIt i k) ∈ news) : a ≠ I := by
  rintro rfl
  have e1 := (N _ h1).1
  have e2 := (N _ h2).1
  have e := Option.some.inj (e1.symm.trans e2)
  have := congrArg Obj.cls e
  injection this with this
  exact absurd this (by decide)
theorem LedL.off {h₀ h : Heap} {L I : Addr} {news : List (Addr × Obj)} {c : LS} {i : Int} {k : Nat} (N : News h₀ L h news) (sub : ∀ p ∈ LedL L c, p ∈ news) (h2 : (I, rangeIt i k) ∈ news) (n1 : L + 1 + 1 + 1 + 1 ≠ I) (n2 : L + 1 + 1 + 1 ≠ I) (n3 : L + 1 + 1 ≠ I) : ∀ p ∈ LedL L c, p.1 ≠ I := by
  intro p hp
  have hm := sub p hp
  unfold LedL at hp
  simp only [List.mem_cons, List.not_mem_nil, or_false] at hp
  rcases hp with rfl | rfl | rfl | rfl | rfl | rfl
  · exact list_ne_it N hm h2
  · exact list_ne_it N hm h2
  · exact list_ne_it N hm h2
  · exact n1
  · exact n2
  · exact n3
theorem seq_ne_cell {h₀ h : Heap} {L a c : Addr} {news : List (Addr × Obj)} {o1 o2 : Obj} {v : Option Value} (N : News h₀ L h news) (h1 : (a, o1) ∈ news) (h2 : (c, o2) ∈ news) (e1 : ∀ v, o1.data ≠ .cell v) (e2 : o2.data = .cell v) : @Ne Nat a c := by
  intro q
  have q : a = c := q
  subst q
  have e := Option.some.inj ((N _ h1).1.symm.trans (N _ h2).1)
  have e : o1 = o2 := e
  rw [← e] at e2
  exact e1 _ e2
/-- two addresses are other ones, hidden from omega -/
def Off (a c : Nat) : Prop := a ≠ c
theorem Off.ne {a c : Nat} (h : Off a c) : a ≠ c := h
theorem Off.en {a c : Nat} (h : Off a c) : c ≠ a := Ne.symm h
theorem list_no_cell (us : List Value) (c : Nat) : ∀ v, (listOf us.toArray c).data ≠ .cell v := by
  intro v hv; cases hv
theorem tup_no_cell (us : Array Value) : ∀ v, ({ cls := .type "tuple", data := .seq us } : Obj).data ≠ .cell v := by
  intro v hv; cases hv
section
open PySem.SeqAt PySem.Spec
variable {prog : Program} {w : World} {A : Around} {E : Value → Shared → Prop} {s : Shared} {Q : Value → Shared → Prop}
theorem eq_nil {l m : Addr} {vs : List Value} (hl : s.heap.IsList l vs.toArray) (hm : s.heap.IsList m #[]) (hu : A.units < cLine)
    (h : Q (.bool (decide (vs = []))) s) : wpAny (model prog w) A (compareOp .Eq (.ref l) (.ref m)) Q E s := by
  cases vs with
  | nil =>
    have := RcAt.lists (A := A) (s := s) (e := fun _ => true) hl hm (by simp) hu (fun j h1 _ => absurd h1 (by simp))
    exact this prog w E Q (by simpa using h)
  | cons v vs =>
    have := RcAt.lists_lengths (A := A) (s := s) hl hm (by simp) hu
    exact this prog w E Q (by simpa using h)
end
theorem filt_yes {ys : List Value} {ns : List Int} {i : Nat} {t : Tok} {p : Int → Bool} (h : IntsAre ys ((ns.take i).filter p)) (hi : i < ns.length) (hp : p (ns.getD i 0) = true) : IntsAre (ys ++ [.int (ns.getD i 0) t]) ((ns.take (i + 1)).filter p) := by
  rw [take_snoc _ 0 hi, List.filter_append, List.filter_cons, if_pos hp]
  exact h.append (.cons _ _ .nil)
theorem filt_no {ys : List Value} {ns : List Int} {i : Nat} {p : Int → Bool} (h : IntsAre ys ((ns.take i).filter p)) (hi : i < ns.length) (hp : ¬ p (ns.getD i 0) = true) : IntsAre ys ((ns.take (i + 1)).filter p) := by
  rw [take_snoc _ 0 hi, List.filter_append, List.filter_cons, if_neg hp]
  simpa using h
theorem betw_nil {ys : List Value} {r : List Int} {n : Nat} (h : IntsAre ys ((r.take n).filter fun x => decide (0 < x ∧ x < topOf r))) (hn : r.length ≤ n) : ys = [] ↔ betw r = [] := by
  rw [List.take_of_length_le hn] at h
  have hl := h.length
  unfold betw
  rw [← List.length_eq_zero_iff, ← List.length_eq_zero_iff (l := List.filter _ _), hl]
theorem code_yes {ys : List Value} {r : List Int} {i : Nat} {t : Tok} (h : IntsAre ys (((List.range i).filter fun k => decide (0 < r.getD k 0)).map fun k => (8 : Int) / 2 ^ k)) (hp : 0 < r.getD i 0) :
    IntsAre (ys ++ [.int (Int.fdiv 8 (2 ^ (0 + (i : Int)).toNat)) t]) (((List.range (i + 1)).filter fun k => decide (0 < r.getD k 0)).map fun k => (8 : Int) / 2 ^ k) := by
  have e : (0 + (i : Int)).toNat = i := by omega
  rw [List.range_succ, List.filter_append, List.filter_cons, if_pos (by simpa using hp), List.map_append, e, Int.fdiv_eq_ediv_of_nonneg _ (Int.le_of_lt (Int.pow_pos (by decide)))]
  exact h.append (.cons _ _ .nil)
theorem code_no {ys : List Value} {r : List Int} {i : Nat} (h : IntsAre ys (((List.range i).filter fun k => decide (0 < r.getD k 0)).map fun k => (8 : Int) / 2 ^ k)) (hp : ¬ 0 < r.getD i 0) :
    IntsAre ys (((List.range (i + 1)).filter fun k => decide (0 < r.getD k 0)).map fun k => (8 : Int) / 2 ^ k) := by
  rw [List.range_succ, List.filter_append, List.filter_cons, if_neg (by simpa using hp)]
  simpa using h
theorem code_in (r : List Int) : 0 ≤ code r ∧ code r ≤ 15 := by
  unfold code
  have e : List.range 4 = [0, 1, 2, 3] := rfl
  rw [e]
  simp only [List.filter_cons, List.filter_nil]
  split <;> split <;> split <;> split <;> decide
section
variable {prog : Program} {w : World} {A : Around} {E : Value → Shared → Prop} {s : Shared} {h₀ : Heap} {L : Addr} {m : Str → Option Value} {news : List (Addr × Obj)}
theorem add_made {l b : Addr} {vs ws : List Value} {c c' : Nat} {Q : Value → Shared → Prop} (F : Fr h₀ L s.heap m) (N : News h₀ L s.heap news) (m1 : (l, listOf vs.toArray c) ∈ news) (m2 : (b, listOf ws.toArray c') ∈ news) (hsz : vs.length + ws.length ≤ 1000)
    (h : ∀ D h', Fr h₀ L h' m → News h₀ L h' ((D, listOf (vs ++ ws).toArray 0) :: news) → (∀ p ∈ news, p.1 < D) → Q (.ref D) { s with heap := h' }) :
    wpAny (model prog w) A (binaryOp .Add (.ref l) (.ref b)) Q E s :=
  add_lists F N (isList_of N m1) (isList_of N m2) (fun h' F' N' => h _ h' F' N' fun p hp => Heap.lt_size (N p hp).1) (by rw [sizeLine_eq]; omega)
end
theorem run_words_yes {z : List Int} {n : Nat} (h : betw (nextRing (run z n).ring) = []) : (run z (n + 1)).words = (run z n).words ++ [(word (code (nextRing (run z n).ring)).natAbs).toArray] := by
  rw [run, stepP]; exact if_pos h
theorem run_words_no {z : List Int} {n : Nat} (h : ¬ betw (nextRing (run z n).ring) = []) : (run z (n + 1)).words = (run z n).words := by
  rw [run, stepP]; exact if_neg h
theorem run_since_eq {z : List Int} {n : Nat} {x : Int} (hx : x = if fstOdd (made (run z n).ring) = (run z n).ring.length then 0 else (((run z n).since + 1 : Nat) : Int)) : x = ((run z (n + 1)).since : Int) := by
  rw [hx, run, stepP]
  dsimp only
  split <;> rfl
theorem start_yes {z : List Int} {n : Nat} {x : Int} {vs : List Value} (hv : IntsAre vs (nextRing (run z n).ring)) (hx : x = if fstOdd (made (run z n).ring) = (run z n).ring.length then 0 else (((run z n).since + 1 : Nat) : Int)) (h0 : x = 0) : IntsAre vs (run z (n + 1)).start := by
  rw [run, stepP]
  dsimp only
  split
  · exact hv
  · rename_i h
    rw [if_neg h] at hx
    omega
theorem start_no {z : List Int} {n : Nat} {x : Int} {vs : List Value} (hv : IntsAre vs (run z n).start) (hx : x = if fstOdd (made (run z n).ring) = (run z n).ring.length then 0 else (((run z n).since + 1 : Nat) : Int)) (h0 : ¬ x = 0) : IntsAre vs (run z (n + 1)).start := by
  rw [run, stepP]
  dsimp only
  split
  · rename_i h
    rw [if_pos h] at hx
    exact absurd hx h0
  · exact hv
theorem turn_end {L I : Addr} {news : List (Addr × Obj)} {zs : List Int} {N sg : Nat} {u sp : Int} {n k : Nat} {m : Str → Option Value} {R S' W : Addr} {vr vs vw : List Value} {cr cs cw : Nat} {oT oW oR : Obj} {vt : Option Value} {ts tsg tu tsp : Tok} {x : Int} {h₀ h : Heap} {Q : Flow → Shared → Prop} {s : Shared} {tk : Nat} (F : Fr h₀ L h m) (N0 : News h₀ L h news)
    (mI : (I, rangeIt ((n : Int) + 1) k) ∈ news) (i1 : Off I (L + 1 + 1 + 1 + 1)) (i2 : Off I (L + 1 + 1 + 1)) (i3 : Off I (L + 1 + 1))
    (mT : (L + 1 + 1 + 1 + 1, oT) ∈ news) (dT : oT.data = .cell vt) (mW : (L + 1 + 1 + 1, oW) ∈ news) (dW : oW.data = .cell (some (.ref W))) (mWl : (W, listOf vw.toArray cw) ∈ news)
    (mR : (L + 1 + 1, oR) ∈ news) (dR : oR.data = .cell (some (.ref R))) (mRl : (R, listOf vr.toArray cr) ∈ news) (hstart : m (Str.ofString "start") = some (.ref S')) (mSl : (S', listOf vs.toArray cs) ∈ news)
    (hsince : m (Str.ofString "since") = some (.int x ts)) (hsign : m (Str.ofString "sign") = some (.str (S [sg]) tsg)) (hunit : m (Str.ofString "unit") = some (.int u tu)) (hspread : m (Str.ofString "spread") = some (.int sp tsp))
    (hx : x = ((run zs (n + 1)).since : Int)) (hn : n + 1 + k = N) (hw : (run zs (n + 1)).words.length < 15) (hr : IntsAre vr (run zs (n + 1)).ring) (hs : IntsAre vs (run zs (n + 1)).start) (hws : BytesAre vw (run zs (n + 1)).words) :
    ForEnd h₀ L I (LedL L) (JL zs N sg u sp) Q s ((n : Int) + 1) k .next { s with heap := h, toks := tk } := by
  obtain ⟨c, hJ, hsub⟩ := JL.of F N0 mT dT mW dW mWl mR dR mRl hstart mSl hsince hsign hunit hspread hx hn hw hr hs hws
  exact ForEnd.next c F N0 (fun p hp => by
    rcases List.mem_cons.mp hp with rfl | hp
    · exact mI
    · exact hsub p hp) (LedL.off N0 hsub mI i1.en i2.en i3.en) hJ
end Mine
namespace Mine
/-- the sum over the places j below k that n covers -/
def usum (n : Nat) (f : Int → Int) (p : Int) : Nat → Int
  | 0 => 0
  | j + 1 => usum n f p j + (if j &&& n = j then f (p - (j : Int)) else 0)
theorem and_ee (j m : Nat) : (2 * j) &&& (2 * m) = 2 * j ↔ j &&& m = j := by
  have h1 := @Nat.and_div_two (2 * j) (2 * m)
  have h2 := @Nat.and_mod_two_eq_one (2 * j) (2 * m)
  rw [show 2 * j / 2 = j by omega, show 2 * m / 2 = m by omega] at h1
  generalize (2 * j) &&& (2 * m) = x at *
  generalize j &&& m = y at *
  omega
theorem and_eo (j m : Nat) : (2 * j) &&& (2 * m + 1) = 2 * j ↔ j &&& m = j := by
  have h1 := @Nat.and_div_two (2 * j) (2 * m + 1)
  have h2 := @Nat.and_mod_two_eq_one (2 * j) (2 * m + 1)
  rw [show 2 * j / 2 = j by omega, show (2 * m + 1) / 2 = m by omega] at h1
  generalize (2 * j) &&& (2 * m + 1) = x at *
  generalize j &&& m = y at *
  omega
theorem and_oe (j m : Nat) : ¬ (2 * j + 1) &&& (2 * m) = 2 * j + 1 := by
  have h2 := @Nat.and_mod_two_eq_one (2 * j + 1) (2 * m)
  generalize (2 * j + 1) &&& (2 * m) = x at *
  omega
theorem and_oo (j m : Nat) : (2 * j + 1) &&& (2 * m + 1) = 2 * j + 1 ↔ j &&& m = j := by
  have h1 := @Nat.and_div_two (2 * j + 1) (2 * m + 1)
  have h2 := @Nat.and_mod_two_eq_one (2 * j + 1) (2 * m + 1)
  rw [show (2 * j + 1) / 2 = j by omega, show (2 * m + 1) / 2 = m by omega] at h1
  generalize (2 * j + 1) &&& (2 * m + 1) = x at *
  generalize j &&& m = y at *
  omega
theorem usum_even (m : Nat) (f : Int → Int) (p : Int) : ∀ k, usum (2 * m) f p (2 * k) = usum m (fun q => f (p + 2 * q)) 0 k ∧ usum (2 * m) f p (2 * k + 1) = usum m (fun q => f (p + 2 * q)) 0 (k + 1)
  | 0 => ⟨rfl, by
      have h : (2 * 0) &&& (2 * m) = 2 * 0 ↔ 0 &&& m = 0 := and_ee 0 m
      simp only [usum, Nat.zero_and, if_true, Int.natCast_zero, Int.mul_zero, Int.sub_zero, Int.add_zero]⟩
  | k + 1 => by
    have ih := (usum_even m f p k).2
    have h1 : usum (2 * m) f p (2 * (k + 1)) = usum m (fun q => f (p + 2 * q)) 0 (k + 1) := by
      rw [show 2 * (k + 1) = 2 * k + 1 + 1 from rfl, usum, if_neg (and_oe k m), ih, Int.add_zero]
    refine ⟨h1, ?_⟩
    rw [usum, h1, usum.eq_2 m _ _ (k + 1)]
    have h := and_ee (k + 1) m
    by_cases hb : (k + 1) &&& m = k + 1
    · rw [if_pos hb, if_pos (h.mpr hb)]
      congr 2
    · rw [if_neg hb, if_neg (fun e => hb (h.mp e))]
theorem usum_odd (m : Nat) (f : Int → Int) (p : Int) : ∀ k, usum (2 * m + 1) f p (2 * k) = usum m (fun q => f (p + 2 * q)) 0 k + usum m (fun q => f (p - 1 + 2 * q)) 0 k
  | 0 => rfl
  | k + 1 => by
    have ih := usum_odd m f p k
    have h1 := and_eo k m
    have h2 := and_oo k m
    rw [show 2 * (k + 1) = 2 * k + 1 + 1 from rfl, usum, usum, ih, usum, usum]
    by_cases hb : k &&& m = k
    · rw [if_pos hb, if_pos hb, if_pos (h1.mpr hb), if_pos (h2.mpr hb), show p + 2 * (0 - (k : Int)) = p - ((2 * k : Nat) : Int) by omega, show p - 1 + 2 * (0 - (k : Int)) = p - ((2 * k + 1 : Nat) : Int) by omega]
      omega
    · rw [if_neg hb, if_neg hb, if_neg (fun e => hb (h1.mp e)), if_neg (fun e => hb (h2.mp e))]
      omega
def tsum (n : Nat) (f : Int → Int) (p : Int) : Int := usum n f p (n + 1)
theorem tsum_even (m : Nat) (f : Int → Int) (p : Int) : tsum (2 * m) f p = tsum m (fun q => f (p + 2 * q)) 0 := (usum_even m f p m).2
theorem tsum_odd (m : Nat) (f : Int → Int) (p : Int) : tsum (2 * m + 1) f p = tsum m (fun q => f (p + 2 * q)) 0 + tsum m (fun q => f (p - 1 + 2 * q)) 0 := usum_odd m f p (m + 1)
theorem usum_shift (n : Nat) (f : Int → Int) (p d : Int) : ∀ k, usum n (fun q => f (q + d)) p k = usum n f (p + d) k
  | 0 => rfl
  | k + 1 => by
    rw [usum, usum, usum_shift n f p d k]
    rw [show p - (k : Int) + d = p + d - k by omega]
theorem tsum_shift (n : Nat) (f : Int → Int) (p d : Int) : tsum n (fun q => f (q + d)) p = tsum n f (p + d) := usum_shift n f p d _
theorem tsum_step : ∀ (b n : Nat), n ≤ b → ∀ (f : Int → Int) (p : Int), (tsum (n + 1) f p - (tsum n f p + tsum n f (p - 1))) % 2 = 0
  | 0, n, h, f, p => by
    obtain rfl : n = 0 := by omega
    have e1 : tsum 1 f p = f p + f (p - 1) := by simp [tsum, usum]
    have e2 : ∀ p, tsum 0 f p = f p := fun p => by simp [tsum, usum]
    rw [e1, e2, e2]; omega
  | b + 1, n, h, f, p => by
    rcases Nat.mod_two_eq_zero_or_one n with hn | hn
    · obtain ⟨m, rfl⟩ : ∃ m, n = 2 * m := ⟨n / 2, by omega⟩
      rw [tsum_odd, tsum_even, tsum_even]
      omega
    · obtain ⟨m, rfl⟩ : ∃ m, n = 2 * m + 1 := ⟨n / 2, by omega⟩
      rw [show 2 * m + 1 + 1 = 2 * (m + 1) by omega, tsum_even, tsum_odd, tsum_odd]
      have ih := tsum_step b m (by omega) (fun q => f (p + 2 * q)) 0
      have e : tsum m (fun q => f (p - 1 - 1 + 2 * q)) 0 = tsum m (fun q => f (p + 2 * q)) (0 - 1) := by
        have := tsum_shift m (fun q => f (p + 2 * q)) 0 (0 - 1)
        rw [Int.zero_add] at this
        rw [← this]
        congr 1
        funext q
        congr 1
        omega
      rw [e]
      omega
/-- a ring's number at any place, counted round -/
def at_ (ns : List Int) (q : Int) : Int := ns.getD (q.fmod ns.length).toNat 0
theorem fsel_sum (ns : List Int) (p : Int) (n : Nat) : ∀ k, (fsel (ns.length : Int) ns p n k).sum = usum n (at_ ns) p k
  | 0 => rfl
  | j + 1 => by
    rw [fsel, List.sum_append, fsel_sum ns p n j, usum]
    have hb : (Builtin.bitAnd (0 + (j : Int)) n = 0 + (j : Int)) ↔ j &&& n = j := by
      unfold Builtin.bitAnd
      rw [decide_eq_true (show (0 : Int) ≤ 0 + j by omega), decide_eq_true (show (0 : Int) ≤ (n : Int) by omega)]
      dsimp only
      rw [show (0 + (j : Int)).toNat = j by omega, show ((n : Int)).toNat = n by omega]
      omega
    by_cases h : j &&& n = j
    · rw [if_pos h, if_pos (hb.mpr h)]
      rw [Int.zero_add]
      simp [at_]
    · rw [if_neg h, if_neg fun e => h (hb.mp e)]
      simp
theorem fodd_iff (ns : List Int) (p : Int) (n : Nat) : fodd (ns.length : Int) ns p n ↔ (tsum n (at_ ns) p) % 2 = 1 := by
  unfold fodd
  rw [fsel_sum, fmod2]; rfl
theorem at_made {ns : List Int} (h : 0 < ns.length) (q : Int) : (at_ (made ns) q - (at_ ns q + at_ ns (q - 1))) % 2 = 0 := by
  have hl : (0 : Int) < (ns.length : Int) := by omega
  unfold at_
  rw [made_len]
  have h1 := Int.fmod_nonneg_of_pos q hl
  have h2 := Int.fmod_lt_of_pos q hl
  rw [made_get ns (by omega)]
  unfold dif
  have e : (((q.fmod ns.length).toNat + ns.length - 1) % ns.length) = ((q - 1).fmod ns.length).toNat := by
    have e1 : (((q.fmod ns.length).toNat + ns.length - 1 : Nat) : Int) = q.fmod ns.length + ns.length - 1 := by omega
    have e2 : ((((q.fmod ns.length).toNat + ns.length - 1) % ns.length : Nat) : Int) = (q - 1).fmod ns.length := by
      rw [Int.natCast_emod, e1, Int.fmod_eq_emod_of_nonneg _ (by omega), Int.fmod_eq_emod_of_nonneg _ (by omega)]
      rw [show q % (ns.length : Int) + ns.length - 1 = (q % (ns.length : Int) - 1) + ns.length by omega, Int.add_emod_right]
      rw [Int.sub_emod, Int.emod_emod_of_dvd _ (Int.dvd_refl _), ← Int.sub_emod]
    omega
  rw [e]
  generalize ns.getD (q.fmod ns.length).toNat 0 = x
  generalize ns.getD ((q - 1).fmod ns.length).toNat 0 = y
  unfold ab
  split <;> omega
theorem fo_fst (sz : Int) (ns : List Int) (n : Nat) (l : List Int) : ∀ (k : Nat) (i : Nat), (∀ j, j < k → (fodd sz ns ((i + j : Nat) : Int) n ↔ (l.getD (i + j) 0).fmod 2 = 1)) → i + k = l.length → fofrom sz ns n k (i : Int) = ((i + fstOdd (l.drop i) : Nat) : Int)
  | 0, i, _, hl => by
    rw [fofrom, List.drop_of_length_le (by omega)]; simp [fstOdd]
  | k + 1, i, h, hl => by
    have hi : i < l.length := by omega
    have h0 := h 0 (by omega)
    rw [Nat.add_zero] at h0
    unfold fodd at h0
    have hd : l.drop i = l.getD i 0 :: l.drop (i + 1) := by
      rw [List.drop_eq_getElem_cons hi, List.getD_eq_getElem?_getD, List.getElem?_eq_getElem hi]; rfl
    rw [fofrom, hd, fstOdd]
    by_cases hb : (l.getD i 0).fmod 2 = 1
    · rw [if_pos hb, if_pos (h0.mpr hb)]; rfl
    · rw [if_neg hb, if_neg fun e => hb (h0.mp e)]
      have := fo_fst sz ns n l k (i + 1) (fun j hj => by have := h (j + 1) (by omega); rwa [show i + 1 + j = i + (j + 1) by omega]) (by omega)
      rw [show ((i : Int) + 1) = ((i + 1 : Nat) : Int) by omega, this]
      omega
theorem at_half (x : Int) : (x - 0) % 2 = x % 2 := by omega
/-- the names' law: `n` turns behind `st` all parities stand in `r` -/
def Luc (st r : List Int) (n : Nat) : Prop := 0 < r.length ∧ st.length = r.length ∧ ∀ q, (at_ r q - tsum n (at_ st) q) % 2 = 0
theorem Luc.refl {r : List Int} (h : 0 < r.length) : Luc r r 0 := ⟨h, rfl, fun q => by simp [tsum, usum]⟩
theorem Luc.step {st r : List Int} {n : Nat} (h : Luc st r n) : Luc st (made r) (n + 1) := by
  obtain ⟨h1, h2, h3⟩ := h
  refine ⟨by rw [made_len]; exact h1, by rw [made_len]; exact h2, fun q => ?_⟩
  have a := at_made h1 q
  have b := h3 q
  have c := h3 (q - 1)
  have d := tsum_step n n (Nat.le_refl _) (at_ st) q
  omega
theorem Luc.first {st r : List Int} {n : Nat} (h : Luc st r n) : fofrom (r.length : Int) st (n + 1 : Nat) r.length 0 = (fstOdd (made r) : Int) := by
  obtain ⟨h1, h2, h3⟩ := h.step
  rw [made_len] at h1 h2
  have := fo_fst (r.length : Int) st (n + 1) (made r) r.length 0 (fun j hj => by
    rw [← h2, fodd_iff]
    have e := h3 ((0 + j : Nat) : Int)
    have e2 : at_ (made r) ((0 + j : Nat) : Int) = (made r).getD (0 + j) 0 := by
      unfold at_
      rw [made_len]
      congr 1
      rw [Int.fmod_eq_emod_of_nonneg _ (by omega), Int.emod_eq_of_lt (by omega) (by omega)]
      omega
    rw [e2] at e
    rw [fmod2]
    omega) (by rw [made_len]; omega)
  rw [show ((0 : Nat) : Int) = 0 from rfl] at this
  rw [this]; simp
theorem run_luc {z : List Int} (h : 0 < z.length) : ∀ n, (run z n).ring.length = z.length ∧ Luc (run z n).start (run z n).ring (run z n).since
  | 0 => ⟨rfl, Luc.refl h⟩
  | n + 1 => by
    obtain ⟨h1, h2⟩ := run_luc h n
    have hl : (nextRing (run z n).ring).length = z.length := by rw [nextRing_len, h1]
    refine ⟨by rw [run, stepP]; exact hl, ?_⟩
    rw [run, stepP]
    dsimp only
    by_cases hw : fstOdd (made (run z n).ring) = (run z n).ring.length
    · rw [if_pos hw, if_pos hw]
      exact Luc.refl (by omega)
    · rw [if_neg hw, if_neg hw]
      unfold nextRing
      rw [if_neg hw]
      exact h2.step
theorem askA : AskA := by
  intro zs hl hb j
  obtain ⟨h1, h2⟩ := run_luc (z := zs) (by omega) j
  have := h2.first
  rw [h1, hl] at this
  exact this
end Mine
namespace Mine
theorem at_get {r : List Int} {i : Nat} (h : i < r.length) : at_ r (i : Int) = r.getD i 0 := by
  unfold at_
  rw [Int.fmod_eq_emod_of_nonneg _ (by omega), Int.emod_eq_of_lt (by omega) (by omega)]
  rfl
theorem at_per {r : List Int} (q : Int) (k : Int) : at_ r (q + r.length * k) = at_ r q := by
  unfold at_
  rw [Int.fmod_eq_emod_of_nonneg _ (by omega), Int.fmod_eq_emod_of_nonneg _ (by omega), Int.add_mul_emod_self_left]
theorem at_mem {r : List Int} (h : 0 < r.length) (q : Int) : at_ r q ∈ r := by
  unfold at_
  have h1 := Int.fmod_nonneg_of_pos q (b := (r.length : Int)) (by omega)
  have h2 := Int.fmod_lt_of_pos q (b := (r.length : Int)) (by omega)
  rw [List.getD_eq_getElem?_getD, List.getElem?_eq_getElem (by omega)]
  exact List.getElem_mem _
theorem mem_at {r : List Int} {x : Int} (h : x ∈ r) : ∃ i : Nat, i < r.length ∧ at_ r i = x := by
  obtain ⟨i, hi, rfl⟩ := List.getElem_of_mem h
  refine ⟨i, hi, ?_⟩
  rw [at_get hi, List.getD_eq_getElem?_getD, List.getElem?_eq_getElem hi]; rfl
theorem at_madeE {ns : List Int} (h : 0 < ns.length) (q : Int) : at_ (made ns) q = ab (at_ ns q - at_ ns (q - 1)) := by
  have hl : (0 : Int) < (ns.length : Int) := by omega
  unfold at_
  rw [made_len]
  have h1 := Int.fmod_nonneg_of_pos q hl
  have h2 := Int.fmod_lt_of_pos q hl
  rw [made_get ns (by omega)]
  unfold dif
  have e : (((q.fmod ns.length).toNat + ns.length - 1) % ns.length) = ((q - 1).fmod ns.length).toNat := by
    have e1 : (((q.fmod ns.length).toNat + ns.length - 1 : Nat) : Int) = q.fmod ns.length + ns.length - 1 := by omega
    have e2 : ((((q.fmod ns.length).toNat + ns.length - 1) % ns.length : Nat) : Int) = (q - 1).fmod ns.length := by
      rw [Int.natCast_emod, e1, Int.fmod_eq_emod_of_nonneg _ (by omega), Int.fmod_eq_emod_of_nonneg _ (by omega)]
      rw [show q % (ns.length : Int) + ns.length - 1 = (q % (ns.length : Int) - 1) + ns.length by omega, Int.add_emod_right]
      rw [Int.sub_emod, Int.emod_emod_of_dvd _ (Int.dvd_refl _), ← Int.sub_emod]
    omega
  rw [e]
/-- a turn's numbers, but for the halving -/
theorem next_at {r : List Int} (h : 0 < r.length) : ∃ k : Int, (k = 1 ∨ k = 2) ∧ ∀ q, k * at_ (nextRing r) q = ab (at_ r q - at_ r (q - 1)) := by
  unfold nextRing
  by_cases hw : fstOdd (made r) = r.length
  · rw [if_pos hw]
    refine ⟨2, .inr rfl, fun q => ?_⟩
    rw [← at_madeE h]
    have hm := fstOdd_all (hw.trans (made_len r).symm)
    have hl : 0 < (made r).length := by rw [made_len]; exact h
    have h3 := hm _ (at_mem hl q)
    have e : at_ ((made r).map fun x => x.fdiv 2) q = (at_ (made r) q).fdiv 2 := by
      unfold at_
      rw [List.length_map]
      rw [List.getD_eq_getElem?_getD, List.getD_eq_getElem?_getD, List.getElem?_map]
      cases (made r)[(q.fmod ((made r).length : Int)).toNat]? <;> rfl
    rw [e, fdiv2]
    rw [fmod2] at h3
    omega
  · rw [if_neg hw]
    exact ⟨1, .inl rfl, fun q => by rw [← at_madeE h]; omega⟩
def Zm (M : Int) (x : Int) : Prop := x = 0 ∨ x = M
/-- w numbers from q back are 0 or M, and one is M -/
def Win (M : Int) (r : List Int) (q : Int) (w : Nat) : Prop := (∃ i, i < w ∧ at_ r (q - (i : Nat)) = M) ∧ ∀ i : Nat, i < w → Zm M (at_ r (q - (i : Nat)))
theorem Win.back {M : Int} {r : List Int} {q : Int} {w : Nat} (hr : 0 < r.length) (hM : 0 < M) (hb : ∀ x ∈ r, 0 ≤ x ∧ x < M + 1) (h : Win M (nextRing r) q w) : Win M r q (w + 1) := by
  obtain ⟨k, hk, hn⟩ := next_at hr
  obtain ⟨⟨i, hi, hiM⟩, hz⟩ := h
  have hA : ∀ q, 0 ≤ at_ r q ∧ at_ r q ≤ M := fun q => by have := hb _ (at_mem hr q); omega
  have n1 := hn (q - (i : Nat))
  have a1 := hA (q - (i : Nat))
  have a2 := hA (q - (i : Nat) - 1)
  rw [hiM] at n1
  have hk1 : k = 1 := by
    rcases hk with rfl | rfl
    · rfl
    · exfalso; unfold ab at n1; split at n1 <;> omega
  subst hk1
  have two : (at_ r (q - (i : Nat)) = M ∧ at_ r (q - (i : Nat) - 1) = 0) ∨ (at_ r (q - (i : Nat)) = 0 ∧ at_ r (q - (i : Nat) - 1) = M) := by
    unfold ab at n1; split at n1 <;> omega
  have e1 : ∀ j : Nat, q - ((j + 1 : Nat) : Int) = q - (j : Nat) - 1 := fun j => by omega
  have up : ∀ d j : Nat, j + d = i → Zm M (at_ r (q - (j : Nat))) := by
    intro d
    induction d with
    | zero => intro j hj; obtain rfl : j = i := by omega
              unfold Zm; omega
    | succ d ih =>
      intro j hj
      have z := ih (j + 1) (by omega)
      rw [e1] at z
      have y := hz j (by omega)
      have n := hn (q - (j : Nat))
      have b1 := hA (q - (j : Nat))
      have b2 := hA (q - (j : Nat) - 1)
      unfold Zm at y z ⊢
      unfold ab at n; split at n <;> omega
  have down : ∀ d : Nat, i + d ≤ w → Zm M (at_ r (q - ((i + d : Nat) : Int))) := by
    intro d
    induction d with
    | zero => intro _; unfold Zm; rw [Nat.add_zero]; omega
    | succ d ih =>
      intro hj
      have z := ih (by omega)
      have y := hz (i + d) (by omega)
      have n := hn (q - ((i + d : Nat) : Int))
      have b1 := hA (q - ((i + d : Nat) : Int))
      have b2 := hA (q - ((i + d : Nat) : Int) - 1)
      rw [show i + (d + 1) = i + d + 1 from rfl, e1]
      unfold Zm at y z ⊢
      unfold ab at n; split at n <;> omega
  refine ⟨?_, fun j hj => ?_⟩
  · rcases two with h | h
    · exact ⟨i, by omega, h.1⟩
    · exact ⟨i + 1, by omega, by rw [e1]; exact h.2⟩
  · by_cases hji : j ≤ i
    · exact up (i - j) j (by omega)
    · have := down (j - i) (by omega)
      rwa [show i + (j - i) = j by omega] at this
theorem betw_of {M : Int} {r : List Int} (hb : ∀ x ∈ r, 0 ≤ x ∧ x < M + 1) (h : ∀ x ∈ r, Zm M x) : betw r = [] := by
  unfold betw
  rw [List.filter_eq_nil_iff]
  intro x hx
  rw [decide_eq_true_eq]
  rintro ⟨h1, h2⟩
  have ht := hb _ (topOf_mem (by intro e; subst e; cases hx) fun x hx => (hb x hx).1)
  have := h x hx
  unfold Zm at this
  omega
theorem Win.flat {M : Int} {r : List Int} {q : Int} (hb : ∀ x ∈ r, 0 ≤ x ∧ x < M + 1) (h : Win M r q r.length) : betw r = [] := by
  refine betw_of hb fun x hx => ?_
  obtain ⟨i, hi, rfl⟩ := mem_at hx
  have hl : (0 : Int) < (r.length : Int) := by omega
  have h1 := Int.fmod_nonneg_of_pos (q - i) hl
  have h2 := Int.fmod_lt_of_pos (q - i) hl
  have := h.2 ((q - i).fmod r.length).toNat (by omega)
  have e : q - ((((q - i).fmod r.length).toNat : Nat) : Int) = i + r.length * ((q - i) / r.length) := by
    have := Int.mul_ediv_add_emod (q - i) r.length
    rw [Int.fmod_eq_emod_of_nonneg _ (by omega)] at *
    omega
  rw [e, at_per] at this
  exact this
def it : Nat → List Int → List Int
  | 0, r => r
  | n + 1, r => nextRing (it n r)
theorem it_add (m : Nat) (r : List Int) : ∀ n, it (n + m) r = it n (it m r)
  | 0 => by rw [Nat.zero_add]; rfl
  | n + 1 => by rw [Nat.add_right_comm, it, it_add m r n]; rfl
theorem it_len (r : List Int) : ∀ n, (it n r).length = r.length
  | 0 => rfl
  | n + 1 => by rw [it, nextRing_len, it_len r n]
theorem it_in {r : List Int} {B : Int} (hb : ∀ x ∈ r, 0 ≤ x ∧ x < B) (hB : 0 < B) : ∀ n, ∀ x ∈ it n r, 0 ≤ x ∧ x < B
  | 0 => hb
  | n + 1 => nextRing_in (it_in hb hB n) hB
/-- four turns bring the greatest down, but for flat rings -/
theorem down4 {r : List Int} {M : Int} (hl : r.length = 5) (hM : 0 < M) (hb : ∀ x ∈ r, 0 ≤ x ∧ x < M + 1) (hf : ¬ betw r = []) : ∀ x ∈ it 4 r, 0 ≤ x ∧ x < M := by
  intro x hx
  have h4 := it_in hb (by omega) 4 x hx
  refine ⟨h4.1, ?_⟩
  by_cases e : x = M
  · exfalso
    subst e
    obtain ⟨i, hi, hix⟩ := mem_at hx
    have w1 : Win x (it 4 r) i 1 := by
      refine ⟨⟨0, by omega, by rw [show (i : Int) - ((0 : Nat) : Int) = i by omega]; exact hix⟩, fun j hj => ?_⟩
      obtain rfl : j = 0 := by omega
      rw [show (i : Int) - ((0 : Nat) : Int) = i by omega]; exact .inr hix
    have w2 := Win.back (r := it 3 r) (by rw [it_len]; omega) hM (it_in hb (by omega) 3) w1
    have w3 := Win.back (r := it 2 r) (by rw [it_len]; omega) hM (it_in hb (by omega) 2) w2
    have w4 := Win.back (r := it 1 r) (by rw [it_len]; omega) hM (it_in hb (by omega) 1) w3
    have w5 := Win.back (r := it 0 r) (by rw [it_len]; omega) hM (it_in hb (by omega) 0) w4
    refine hf (Win.flat (q := i) hb ?_)
    rw [hl]; exact w5
  · omega
theorem flat_by : ∀ (k : Nat) (r : List Int), r.length = 5 → (∀ x ∈ r, 0 ≤ x ∧ x < (k : Int) + 2) → ∃ n, n ≤ 4 * k ∧ betw (it n r) = []
  | 0, r, _, hb => ⟨0, by omega, betw_of (M := 1) (fun x hx => by have := hb x hx; omega) fun x hx => by have := hb x hx; unfold Zm; omega⟩
  | k + 1, r, hl, hb => by
    by_cases hf : betw r = []
    · exact ⟨0, by omega, hf⟩
    · obtain ⟨n, hn, hn2⟩ := flat_by k (it 4 r) (by rw [it_len]; exact hl) (fun x hx => by
        have := down4 (M := (k : Int) + 2) hl (by omega) (fun x hx => by have := hb x hx; omega) hf x hx; omega)
      exact ⟨n + 4, by omega, by rw [it_add]; exact hn2⟩
theorem least (P : Nat → Prop) : ∀ n, P n → ∃ m, m ≤ n ∧ P m ∧ ∀ i, i < m → ¬ P i
  | n, h => by
    by_cases hl : ∃ i, i < n ∧ P i
    · obtain ⟨i, hi, hp⟩ := hl
      obtain ⟨m, hm, hm2⟩ := least P i hp
      exact ⟨m, by omega, hm2⟩
    · exact ⟨n, Nat.le_refl _, h, fun i hi hp => hl ⟨i, hi, hp⟩⟩
theorem run_it (z : List Int) : ∀ n, (run z n).ring = it n z
  | 0 => rfl
  | n + 1 => by rw [run, stepP, it, ← run_it z n]
/-- places above nought -/
def P (r : List Int) (q : Int) : Bool := decide (0 < at_ r q)
theorem flat_zm {r : List Int} (hp : ∀ x ∈ r, 0 ≤ x) (h : betw r = []) : ∀ x ∈ r, Zm (topOf r) x := by
  intro x hx
  unfold betw at h
  rw [List.filter_eq_nil_iff] at h
  have h1 := h x hx
  rw [decide_eq_true_eq] at h1
  have h2 := le_topOf x hx
  have h3 := hp x hx
  unfold Zm
  omega
theorem flat_next {r : List Int} (hr : 0 < r.length) (hp : ∀ x ∈ r, 0 ≤ x) (h : betw r = []) : betw (nextRing r) = [] ∧ ∀ q, P (nextRing r) q = (P r q ^^ P r (q - 1)) := by
  obtain ⟨k, hk, hn⟩ := next_at hr
  have hz := flat_zm hp h
  have hT := topOf_nonneg hp
  have key : ∀ q, Zm (topOf r) (at_ r q) := fun q => hz _ (at_mem hr q)
  refine ⟨?_, fun q => ?_⟩
  · have hl : 0 < (nextRing r).length := by rw [nextRing_len]; exact hr
    have hN : ∀ x ∈ nextRing r, k * x = 0 ∨ k * x = topOf r := by
      intro x hx
      obtain ⟨i, hi, rfl⟩ := mem_at hx
      have n := hn i
      have k1 := key i
      have k2 := key ((i : Int) - 1)
      unfold Zm at k1 k2
      rw [n]
      unfold ab; split <;> omega
    refine betw_of (M := topOf (nextRing r)) ?_ ?_
    · intro x hx
      have := le_topOf x hx
      have := hN x hx
      rcases hk with rfl | rfl <;> omega
    · intro x hx
      have h0 : ∀ x ∈ nextRing r, 0 ≤ x := fun x hx => by
        have := hN x hx
        rcases hk with rfl | rfl <;> omega
      have a := hN x hx
      have b := hN _ (topOf_mem (List.ne_nil_of_mem hx) h0)
      have c := le_topOf x hx
      have d := h0 x hx
      unfold Zm
      rcases hk with rfl | rfl <;> omega
  · have n := hn q
    have k1 := key q
    have k2 := key (q - 1)
    unfold Zm at k1 k2
    unfold P
    generalize at_ r q = x at *
    generalize at_ r (q - 1) = y at *
    generalize at_ (nextRing r) q = w at *
    have e : (0 < w) ↔ ¬ ((0 < x) ↔ (0 < y)) := by
      unfold ab at n
      rcases hk with rfl | rfl <;> split at n <;> omega
    by_cases h1 : 0 < x <;> by_cases h2 : 0 < y <;> by_cases h3 : 0 < w <;> simp only [h1, h2, h3, decide_true, decide_false, Bool.xor_true, Bool.xor_false, Bool.not_true, Bool.not_false] <;> exfalso <;> revert e <;> simp [h1, h2, h3]
structure B5 where
  a : Bool
  b : Bool
  c : Bool
  d : Bool
  e : Bool
def B5.nx (p : B5) : B5 := ⟨p.a ^^ p.e, p.b ^^ p.a, p.c ^^ p.b, p.d ^^ p.c, p.e ^^ p.d⟩
def B5.go (p : B5) : Nat → B5
  | 0 => p
  | n + 1 => (p.go n).nx
def B5.cd (p : B5) : Nat := (if p.a then 8 else 0) + (if p.b then 4 else 0) + (if p.c then 2 else 0) + (if p.d then 1 else 0)
def pat (r : List Int) : B5 := ⟨P r 0, P r 1, P r 2, P r 3, P r 4⟩
theorem pat_next {r : List Int} (hr : r.length = 5) (hp : ∀ x ∈ r, 0 ≤ x) (h : betw r = []) : pat (nextRing r) = (pat r).nx := by
  have h2 := (flat_next (by omega) hp h).2
  have e : P r (0 - 1) = P r 4 := by
    unfold P
    have := at_per (r := r) 4 (-1)
    rw [hr] at this
    rw [← this]; rfl
  unfold pat B5.nx
  rw [h2 0, h2 1, h2 2, h2 3, h2 4, e]
  rfl
theorem code_pat {r : List Int} (hr : r.length = 5) : code r = ((pat r).cd : Int) := by
  have e0 : P r 0 = decide (0 < r.getD 0 0) := by
                                                     have h : at_ r 0 = r.getD 0 0 := at_get (i := 0) (by omega)
                                                     unfold P; rw [h]
  have e1 : P r 1 = decide (0 < r.getD 1 0) := by
                                                     have h : at_ r 1 = r.getD 1 0 := at_get (i := 1) (by omega)
                                                     unfold P; rw [h]
  have e2 : P r 2 = decide (0 < r.getD 2 0) := by
                                                     have h : at_ r 2 = r.getD 2 0 := at_get (i := 2) (by omega)
                                                     unfold P; rw [h]
  have e3 : P r 3 = decide (0 < r.getD 3 0) := by
                                                     have h : at_ r 3 = r.getD 3 0 := at_get (i := 3) (by omega)
                                                     unfold P; rw [h]
  unfold code pat B5.cd
  have e : List.range 4 = [0, 1, 2, 3] := rfl
  rw [e, e0, e1, e2, e3]
  dsimp only
  simp only [List.filter_cons, List.filter_nil]
  split <;> split <;> split <;> split <;> rfl
theorem it_flat {r : List Int} (hl : r.length = 5) (hp : ∀ x ∈ r, 0 ≤ x ∧ x < 8) (h : betw r = []) : ∀ n, betw (it n r) = [] ∧ pat (it n r) = (pat r).go n
  | 0 => ⟨h, rfl⟩
  | n + 1 => by
    obtain ⟨h1, h2⟩ := it_flat hl hp h n
    have hp2 : ∀ x ∈ it n r, 0 ≤ x := fun x hx => (it_in hp (by decide) n x hx).1
    have hl2 : (it n r).length = 5 := by rw [it_len]; exact hl
    exact ⟨(flat_next (by omega) hp2 h1).1, by rw [it, pat_next hl2 hp2 h1, h2]; rfl⟩
def wd (n : Nat) : Array UInt8 := (word n).toArray
theorem words_it {z : List Int} {t : Nat} (h0 : ∀ i, i < t → ¬ betw (it (i + 1) z) = []) (hl : z.length = 5) (hz : ∀ x ∈ z, 0 ≤ x ∧ x < 8) (ht : betw (it (t + 1) z) = []) : (∀ i, i ≤ t → (run z i).words = []) ∧ ∀ k, (run z (t + k)).words = (List.range k).map fun i => wd ((pat (it (t + 1) z)).go i).cd := by
  have h1 : ∀ i, i ≤ t → (run z i).words = [] := by
    intro i
    induction i with
    | zero => intro _; rfl
    | succ i ih =>
      intro hi
      rw [run_words_no (by rw [run_it]; exact h0 i (by omega))]
      exact ih (by omega)
  refine ⟨h1, fun k => ?_⟩
  induction k with
  | zero => exact h1 t (Nat.le_refl _)
  | succ k ih =>
    have hl2 : (it (t + 1) z).length = 5 := by rw [it_len]; exact hl
    obtain ⟨f1, f2⟩ := it_flat hl2 (it_in hz (by decide) _) ht k
    have e : nextRing (run z (t + k)).ring = it k (it (t + 1) z) := by
      rw [run_it, ← it_add, show k + (t + 1) = t + k + 1 by omega]; rfl
    rw [show t + (k + 1) = t + k + 1 from rfl, run_words_yes (by rw [e]; exact f1), ih, range_snoc, e, code_pat (by rw [it_len]; exact hl2), f2]
    rfl
/-- not all alike -/
def NC (r : List Int) : Prop := ∃ q, at_ r q ≠ at_ r (q - 1)
theorem all_eq {r : List Int} (hl : r.length = 5) : at_ r (0 - 1) = at_ r 4 := by
  have := at_per (r := r) 4 (-1)
  rw [hl] at this
  rw [← this]; rfl
theorem q5 {r : List Int} (hl : r.length = 5) (q : Int) : ∃ i : Int, 0 ≤ i ∧ i < 5 ∧ at_ r q = at_ r i ∧ at_ r (q - 1) = at_ r (i - 1) := by
  refine ⟨q % 5, by omega, by omega, ?_, ?_⟩
  · have := at_per (r := r) (q % 5) (q / 5)
    rw [hl] at this
    rw [← this]; congr 1; omega
  · have := at_per (r := r) (q % 5 - 1) (q / 5)
    rw [hl] at this
    rw [← this]; congr 1; omega
theorem NC.next {r : List Int} (hl : r.length = 5) (h : NC r) : NC (nextRing r) := by
  obtain ⟨k, hk, hn⟩ := next_at (r := r) (by omega)
  obtain ⟨q, hq⟩ := h
  obtain ⟨i, hi1, hi2, e1, e2⟩ := q5 hl q
  rw [e1, e2] at hq
  apply Classical.byContradiction
  intro hc
  have hc : ∀ q, at_ (nextRing r) q = at_ (nextRing r) (q - 1) := fun q => Classical.byContradiction fun hq => hc ⟨q, hq⟩
  have c1 : at_ (nextRing r) 1 = at_ (nextRing r) 0 := hc 1
  have c2 : at_ (nextRing r) 2 = at_ (nextRing r) 1 := hc 2
  have c3 : at_ (nextRing r) 3 = at_ (nextRing r) 2 := hc 3
  have c4 : at_ (nextRing r) 4 = at_ (nextRing r) 3 := hc 4
  have n0 := hn 0
  have n1 : k * at_ (nextRing r) 1 = ab (at_ r 1 - at_ r 0) := hn 1
  have n2 : k * at_ (nextRing r) 2 = ab (at_ r 2 - at_ r 1) := hn 2
  have n3 : k * at_ (nextRing r) 3 = ab (at_ r 3 - at_ r 2) := hn 3
  have n4 : k * at_ (nextRing r) 4 = ab (at_ r 4 - at_ r 3) := hn 4
  rw [all_eq hl] at n0
  have hi : i = 0 ∨ i = 1 ∨ i = 2 ∨ i = 3 ∨ i = 4 := by omega
  have hq' : at_ r 0 ≠ at_ r 4 ∨ at_ r 1 ≠ at_ r 0 ∨ at_ r 2 ≠ at_ r 1 ∨ at_ r 3 ≠ at_ r 2 ∨ at_ r 4 ≠ at_ r 3 := by
    rcases hi with rfl | rfl | rfl | rfl | rfl
    · rw [all_eq hl] at hq; exact .inl hq
    · exact .inr (.inl hq)
    · exact .inr (.inr (.inl hq))
    · exact .inr (.inr (.inr (.inl hq)))
    · exact .inr (.inr (.inr (.inr hq)))
  clear hq hc e1 e2 hi hn
  rw [c4, c3, c2, c1] at n4
  rw [c3, c2, c1] at n3
  rw [c2, c1] at n2
  rw [c1] at n1
  clear c1 c2 c3 c4
  generalize k * at_ (nextRing r) 0 = w at *
  generalize at_ r 0 = x0 at *
  generalize at_ r 1 = x1 at *
  generalize at_ r 2 = x2 at *
  generalize at_ r 3 = x3 at *
  generalize at_ r 4 = x4 at *
  unfold ab at n0 n1 n2 n3 n4
  split at n0 <;> split at n1 <;> split at n2 <;> split at n3 <;> split at n4 <;> omega
theorem NC.it {r : List Int} (hl : r.length = 5) (h : NC r) : ∀ n, NC (it n r)
  | 0 => h
  | n + 1 => NC.next (by rw [it_len]; exact hl) (NC.it hl h n)
theorem sgn {C d w k : Int} (hk : k = 1 ∨ k = 2) (h : k * w = ab d) (hz : w = 0 ∨ k * w = C) (hC : 0 < C) : ∃ s : Int, d = C * s ∧ (s % 2 = if decide (0 < w) = true then 1 else 0) := by
  rcases hz with rfl | hz
  · refine ⟨0, ?_, by simp⟩
    unfold ab at h
    rw [Int.mul_zero] at *
    split at h <;> omega
  · have hw : 0 < w := by rcases hk with rfl | rfl <;> omega
    rw [decide_eq_true hw]
    unfold ab at h
    split at h
    · exact ⟨-1, by rw [Int.mul_neg, Int.mul_one]; omega, by simp⟩
    · exact ⟨1, by rw [Int.mul_one]; omega, by simp⟩
def B5.even (p : B5) : Bool := !(p.a ^^ p.b ^^ p.c ^^ p.d ^^ p.e)
def B5.some (p : B5) : Bool := p.a || p.b || p.c || p.d || p.e
theorem even_of {s0 s1 s2 s3 s4 : Int} {a b c d e : Bool} (h0 : s0 % 2 = if a = true then 1 else 0) (h1 : s1 % 2 = if b = true then 1 else 0) (h2 : s2 % 2 = if c = true then 1 else 0) (h3 : s3 % 2 = if d = true then 1 else 0) (h4 : s4 % 2 = if e = true then 1 else 0) (h : s0 + s1 + s2 + s3 + s4 = 0) : (B5.mk a b c d e).even = true := by
  cases a <;> cases b <;> cases c <;> cases d <;> cases e <;> first | rfl | (exfalso; simp at h0 h1 h2 h3 h4; omega)
theorem pat_even {r : List Int} (hl : r.length = 5) (hp : ∀ x ∈ nextRing r, 0 ≤ x) (h : betw (nextRing r) = []) (hn : NC (nextRing r)) : (pat (nextRing r)).even = true ∧ (pat (nextRing r)).some = true := by
  have hl2 : (nextRing r).length = 5 := by rw [nextRing_len]; exact hl
  have hz := flat_zm hp h
  have hz : ∀ q, Zm (topOf (nextRing r)) (at_ (nextRing r) q) := fun q => hz _ (at_mem (by omega) q)
  obtain ⟨k, hk, hN⟩ := next_at (r := r) (by omega)
  have hT : 0 < topOf (nextRing r) := by
    obtain ⟨q, hq⟩ := hn
    have a := hz q
    have b := hz (q - 1)
    have c := topOf_nonneg hp
    unfold Zm at a b
    omega
  constructor
  · have hC : 0 < k * topOf (nextRing r) := Int.mul_pos (by omega) hT
    have go : ∀ q, ∃ s : Int, at_ r q - at_ r (q - 1) = (k * topOf (nextRing r)) * s ∧ (s % 2 = if decide (0 < at_ (nextRing r) q) = true then 1 else 0) := fun q =>
      sgn hk (hN q) ((hz q).imp id fun e => by rw [e]) hC
    obtain ⟨s0, a0, b0⟩ := go 0
    obtain ⟨s1, a1, b1⟩ := go 1
    obtain ⟨s2, a2, b2⟩ := go 2
    obtain ⟨s3, a3, b3⟩ := go 3
    obtain ⟨s4, a4, b4⟩ := go 4
    refine even_of b0 b1 b2 b3 b4 ?_
    have hs : (k * topOf (nextRing r)) * (s0 + s1 + s2 + s3 + s4) = 0 := by
      rw [Int.mul_add, Int.mul_add, Int.mul_add, Int.mul_add, ← a0, ← a1, ← a2, ← a3, ← a4, all_eq hl]
      show at_ r 0 - at_ r 4 + (at_ r 1 - at_ r 0) + (at_ r 2 - at_ r 1) + (at_ r 3 - at_ r 2) + (at_ r 4 - at_ r 3) = 0
      omega
    rcases Int.mul_eq_zero.mp hs with e | e
    · omega
    · exact e
  · apply Classical.byContradiction
    intro hc
    obtain ⟨q, hq⟩ := hn
    obtain ⟨i, hi1, hi2, e1, _⟩ := q5 hl2 q
    obtain ⟨j, hj1, hj2, e2, _⟩ := q5 hl2 (q - 1)
    have key : ∀ i : Int, 0 ≤ i → i < 5 → ¬ 0 < at_ (nextRing r) i := by
      intro i h1 h2 h3
      apply hc
      unfold B5.some pat P
      have hi : i = 0 ∨ i = 1 ∨ i = 2 ∨ i = 3 ∨ i = 4 := by omega
      rcases hi with rfl | rfl | rfl | rfl | rfl <;> simp [h3]
    have := key i hi1 hi2
    have := key j hj1 hj2
    have := hp _ (at_mem (r := nextRing r) (by omega) q)
    have := hp _ (at_mem (r := nextRing r) (by omega) (q - 1))
    omega
theorem orbit : ∀ a b c d e : Bool, (B5.mk a b c d e).even = true → (B5.mk a b c d e).some = true → ∀ n, n < 15 → ∃ i, i < 15 ∧ ((B5.mk a b c d e).go i).cd = n + 1 := by decide +kernel
theorem word_small {n : Nat} (h : n < 15) : wd (n + 1) = #[(66 + n).toUInt8] := by
  unfold wd
  rw [word_step (by omega), show (n + 1) / 16 = 0 by omega, word_zero, show 65 + (n + 1) % 16 = 66 + n by omega]
  rfl
theorem askB : AskB := by
  intro zs hl hb M m hM1 hM2 hm1 hm2
  have hMb := hb _ hM1
  have hmb := hb _ hm1
  have hMm : m ≤ M := hM2 _ hm1
  -- the first turn brings all below the spread
  have h1 : ∀ x ∈ nextRing zs, 0 ≤ x ∧ x < (M - m) + 1 := by
    intro x hx
    obtain ⟨k, hk, hN⟩ := next_at (r := zs) (by omega)
    obtain ⟨i, hi, rfl⟩ := mem_at hx
    have n := hN i
    have a1 := hM2 _ (at_mem (r := zs) (by omega) i)
    have a2 := hM2 _ (at_mem (r := zs) (by omega) ((i : Int) - 1))
    have a3 := hm2 _ (at_mem (r := zs) (by omega) i)
    have a4 := hm2 _ (at_mem (r := zs) (by omega) ((i : Int) - 1))
    unfold ab at n
    rcases hk with rfl | rfl <;> split at n <;> omega
  have hl1 : (nextRing zs).length = 5 := by rw [nextRing_len]; exact hl
  obtain ⟨t, ht, htf⟩ : ∃ t, t + 15 ≤ span M m ∧ betw (it (t + 1) zs) = [] := by
    by_cases hs : M - m = 0
    · refine ⟨0, by unfold span; split <;> omega, ?_⟩
      exact betw_of (M := 1) (fun x hx => by have := h1 x hx; omega) fun x hx => by have := h1 x hx; unfold Zm; omega
    · obtain ⟨n, hn, hnf⟩ := flat_by (M - m - 1).toNat (nextRing zs) hl1 (fun x hx => by have := h1 x hx; omega)
      refine ⟨n, by unfold span; split <;> omega, ?_⟩
      rw [it_add]; exact hnf
  obtain ⟨u, hu, huf, hul⟩ := least (fun t => betw (it (t + 1) zs) = []) t htf
  obtain ⟨w1, w2⟩ := words_it hul hl hb huf
  refine ⟨⟨u + 14, by omega, by rw [show u + 14 + 1 = u + 15 from rfl, w2]; simp⟩, fun j hj => ?_⟩
  have hju : u ≤ j := by
    apply Classical.byContradiction
    intro h
    rw [w1 j (by omega)] at hj
    cases hj
  obtain ⟨k, rfl⟩ : ∃ k, j = u + k := ⟨j - u, by omega⟩
  rw [w2] at hj ⊢
  have hk : k = 15 := by simpa using hj
  subst hk
  have hlu : (it u zs).length = 5 := by rw [it_len]; exact hl
  have hp : ∀ x ∈ nextRing (it u zs), 0 ≤ x := fun x hx => (it_in hb (by decide) (u + 1) x hx).1
  by_cases hs : M - m > 0
  · rw [if_pos hs]
    have hnc : NC zs := by
      apply Classical.byContradiction
      intro hc
      have hc : ∀ q, at_ zs q = at_ zs (q - 1) := fun q => Classical.byContradiction fun hq => hc ⟨q, hq⟩
      have c1 : at_ zs 1 = at_ zs 0 := hc 1
      have c2 : at_ zs 2 = at_ zs 1 := hc 2
      have c3 : at_ zs 3 = at_ zs 2 := hc 3
      have c4 : at_ zs 4 = at_ zs 3 := hc 4
      have all : ∀ x ∈ zs, x = at_ zs 0 := by
        intro x hx
        obtain ⟨i, hi, rfl⟩ := mem_at hx
        have hi : i = 0 ∨ i = 1 ∨ i = 2 ∨ i = 3 ∨ i = 4 := by omega
        rcases hi with rfl | rfl | rfl | rfl | rfl
        · rfl
        · exact c1
        · exact c2.trans c1
        · exact c3.trans (c2.trans c1)
        · exact c4.trans (c3.trans (c2.trans c1))
      have := all M hM1
      have := all m hm1
      omega
    obtain ⟨p1, p2⟩ := pat_even hlu hp huf (NC.it hl hnc (u + 1))
    intro n hn
    obtain ⟨i, hi, hc⟩ := orbit _ _ _ _ _ p1 p2 n hn
    rw [← word_small hn, ← hc]
    exact List.mem_map.mpr ⟨i, List.mem_range.mpr hi, rfl⟩
  · rw [if_neg hs]
    have hz : ∀ x ∈ nextRing zs, x = 0 := fun x hx => by have := h1 x hx; omega
    have hu0 : u = 0 := by
      apply Classical.byContradiction
      intro h
      refine hul 0 (by omega) (betw_of (M := 1) (fun x hx => ?_) fun x hx => ?_)
      · have := hz x hx; omega
      · have := hz x hx; unfold Zm; omega
    subst hu0
    have e : pat (it (0 + 1) zs) = ⟨false, false, false, false, false⟩ := by
      have : ∀ q, P (nextRing zs) q = false := fun q => by
        unfold P
        rw [hz _ (at_mem (by omega) q)]; rfl
      show pat (nextRing zs) = _
      unfold pat
      rw [this, this, this, this, this]
    have g : ∀ n, (B5.mk false false false false false).go n = ⟨false, false, false, false, false⟩ := by
      intro n
      induction n with
      | zero => rfl
      | succ n ih => rw [B5.go, ih]; rfl
    rw [e]
    refine List.ext_getElem (by simp) fun i h1 h2 => ?_
    simp only [List.getElem_map, List.getElem_replicate, g]
    show wd 0 = _
    unfold wd; rw [word_zero]
end Mine
namespace Mine
theorem ldL {M : Model} {A : Around} {E : Value → Shared → Prop} {s : Shared} {h₀ : Heap} {L a : Addr} {m : Str → Option Value} {name : Str} {scope : Scope} {cd : Value} {x : Str} {pos : Pos} {v : Value} {Q : Value → Shared → Prop} (F : Fr h₀ L s.heap m) (hv : m x = some v) (h : Q v s)
    (hk : scope.kind = .function := by rfl) (hl : (envOfC name scope L a cd).kindOf x = some .local := by rfl)
    (hd : (x == ("__debug__" : Str)) = false := by decide) :
    wpAny M A (eval (.Name x pos) (envOfC name scope L a cd)) Q E s := wpAny_Name (wpAny_loadName_local hk hl F.ns hv h) hd
local macro_rules | `(tactic| walk_at "CompEnd") => `(tactic| (k_here; k_dflt (first
  | (refine LCg.CompEnd.intro (by assumption) (by assumption) _ (fun p hp => hp) (by with_unfolding_all assumption) (by lcg_src) ?_)
  | (refine LCg.CompEnd.intro (by assumption) (by assumption) _ (fun p hp => List.Mem.tail _ hp) (by with_unfolding_all assumption) (by lcg_src) ?_))))
local macro_rules | `(tactic| walk_at "eval ListComp") => `(tactic| (k_here; k_dflt (refine LCg.ListComp_U (F₀ := by k_asm) (by with_unfolding_all rfl) (by decide) (by rfl) (by decide) (by rfl) ?_)))
local macro_rules | `(tactic| walk_at "exec Assign cons ListComp") => `(tactic| (k_here; k_dflt (refine LCg.Assign_ListComp_U (F₀ := by k_asm) (by rfl) (by with_unfolding_all rfl) (by with_unfolding_all rfl) (by decide) (by rfl) (by decide) (by rfl) (by rfl) (by rfl) ?_)))
local macro_rules | `(tactic| walk_at "exec Assign cons ListComp") => `(tactic| (k_here; k_dflt (refine Assign_ListComp_E (F₀ := by k_asm) (by rfl) (by with_unfolding_all rfl) (by with_unfolding_all rfl) (by decide) (by rfl) (by decide) (by rfl) (by rfl) (by decide) (by rfl) (by rfl) ?_)))
local macro_rules | `(tactic| walk_at "CompSrc") => `(tactic| (refine Hold.intro ?_))
local macro_rules | `(tactic| walk_at "call ref") => `(tactic| (refine Hold.intro ?_))
local macro_rules | `(tactic| walk_at "call type:enumerate cons nil") => `(tactic| (refine Hold.intro ?_))
local macro_rules | `(tactic| walk_at "subscriptTail Name Slice ref ref") => `(tactic| (refine Hold.intro ?_))
local macro_rules | `(tactic| walk_at "call builtin:chr cons nil") => `(tactic| (refine Hold.intro ?_))
local macro_rules | `(tactic| walk_at "call builtin:max") => `(tactic| (refine Hold.intro ?_))
local macro_rules | `(tactic| walk_at "call builtin:min") => `(tactic| (refine Hold.intro ?_))
local macro_rules | `(tactic| walk_at "exec For Name Call cons nil") => `(tactic| (k_here; k_dflt (refine For_in ?_)))
local macro_rules | `(tactic| walk_at "pyIter ref") => `(tactic| (refine Hold.intro ?_))
local macro_rules | `(tactic| walk_at "eval Name") => `(tactic| (k_here; k_dflt (refine' ldL ?k1 ?k2 ?_; (case k1 => k_asm); (case k2 => with_unfolding_all assumption); k_whole)))
theorem lturn_at {w : World} {h : Heap} {mg mb : Str → Option Value} {dp un : Nat} {gd : Option (List Code)} {cn : Str} {cs : Scope} {a : Addr} {ccd : Value} {cl : List (Str × Addr)} {outer : List Env} {A₀ : Around} {base h₀ : Heap} {L : Addr} {m : Str → Option Value} {s : Shared} {Q E : Value → Shared → Prop} {news : List (Addr × Obj)}
    {r st : Addr} {vr vs : List Value} {cr cst : Nat} {nr ns : List Int} (n sg : Nat) (u : Int) (t1 t2 t3 : Tok) (B : Below A₀ base outer h₀) (F : Fr h₀ L s.heap m) (X : (hd.heap_39 w.params).In h₀) (N : News h₀ L s.heap news) (T : Top hd.view_39 (looseW hd.view_39 []) (ExcName.means h) mg mb h₀) (hk : cs.kind = .function)
    (mr : (r, listOf vr.toArray cr) ∈ news) (ms : (st, listOf vs.toArray cst) ∈ news)
    (hIr : IntsAre vr nr) (hr : nr.length = 5) (hIs : IntsAre vs ns) (hs : ns.length = 5) (hn : n ≤ 63) (hsg : sg < 128 ∧ sg ≠ 34) (hu : 0 ≤ u ∧ u ≤ 300) (hb : ∀ x ∈ nr, 0 ≤ x ∧ x < 8) (hdp : dp + 60 < recursionLimit) (hun : un + 60 < cLine)
    (hfo : fofrom 5 ns n 5 0 = (fstOdd (made nr) : Int))
    (hq : ∀ (T l' : Addr) (vs' : List Value) (c' : Nat) (x : Int) (t : Tok) (h' : Heap) (tk' : Nat), IntsAre vs' (nextRing nr) → x = (if fstOdd (made nr) = nr.length then 0 else (n : Int)) → Fr h₀ L h' m → News h₀ L h' ((T, { cls := .type "tuple", data := .seq #[.ref l', .int x t] }) :: (l', listOf vs'.toArray c') :: news) → Q (.ref T) { s with heap := h', toks := tk' }) :
    wpAny (model PySem.Challenge.rw_pm0003_02.row.prog w) (ktrTop dp un gd cn cs L a ccd cl outer) (call (.ref 68) [.ref r, .ref st, .int n t1, .str (S [sg]) t2, .int u t3]) Q E s :=
  lturn2 n sg u t1 t2 t3 B F X (news := news) (fun p hp => N p (by
    rcases List.mem_cons.mp hp with rfl | hp
    · exact mr
    · rcases List.mem_cons.mp hp with rfl | hp
      · exact ms
      · exact hp)) T hk hIr hr hIs hs hn hsg hu hb hdp hun hfo
    fun T l' vs' c' x t h' tk' e1 e2 F' N' => hq T l' vs' c' x t h' tk' e1 e2 F' fun p hp => by
      refine N' p ?_
      rcases List.mem_cons.mp hp with rfl | hp
      · exact .head _
      · rcases List.mem_cons.mp hp with rfl | hp
        · exact .tail _ (.head _)
        · exact .tail _ (.tail _ (.tail _ (.tail _ hp)))
local macro_rules | `(tactic| walk_at "compareOp Eq ref ref") => `(tactic| (refine Hold.intro ?_))
local macro_rules | `(tactic| walk_at "CompSrcT") => `(tactic| (refine Hold.intro ?_))
local macro_rules | `(tactic| walk_at "eval ListComp") => `(tactic| (k_here; k_dflt (refine LCt.ListComp_T (F₀ := by k_asm) (by with_unfolding_all rfl) (by decide) (by rfl) (by decide) (by rfl) ?_)))
local macro_rules | `(tactic| walk_at "subscriptTail Name Name ref int") => `(tactic| (k_here; k_dflt (refine' item_cur _ ?k1 ?k2 ?k3 ?k4 ?k5 ?_; (case k1 => k_asm); (case k2 => k_mem); (case k3 => assumption); (case k4 => omega); (case k5 => omega); k_whole; intro t')))
local macro_rules | `(tactic| walk_at "binaryOp Add ref ref") => `(tactic| (refine Hold.intro ?_))
local macro_rules | `(tactic| walk_at "call builtin:len cons nil") => `(tactic| (refine Hold.intro ?_))
local macro_rules | `(tactic| k_ne) => `(tactic| (refine neN ?_; (try dsimp only); first | exact Off.ne (by assumption) | exact Off.en (by assumption) | omega))
local macro_rules | `(tactic| walk_at "ForEnd") => `(tactic| ((with_reducible show ForEnd _ _ _ _ _ _ _ _ _ (Flow.ret _) _); dsimp only [ForEnd]))
local macro_rules | `(tactic| walk_at "compareOp NotIn") => `(tactic| (refine Hold.intro ?_))
set_option maxRecDepth 100000 in
set_option maxHeartbeats 8000000 in
theorem X2 (hA : AskA) (hB : AskB) : PySem.Challenge.rw_pm0003_02.Holds := hd (by
  k_go0
  (all_goals try k_fold)
  k_with_none
  rename List Int => scr
  rename IntsAre _ _ => hSI
  rename Heap.IsList _ _ _ => hSL
  rename ¬ ((63 : Nat) : Int) < _ => hSn
  k_steps
  k_dflt refine Hold.out (call_enum (by assumption) (by assumption) (by k_mem) ?_)
  intro e it h'' hei he hi F' N' off he₀ hi₀ hLe hLi
  refine ⟨e, it, _, _, _, _, InRing 8, rfl, rfl, ?_, F', N', by k_mem, he, hi, hei, off, he₀, hi₀, hLe, hLi, InRing.nil, fun s₂ hs₂ => ⟨?_, ?_⟩⟩
  · exact Nat.le_of_ble_eq_true rfl
  · obtain ⟨hp2, rfl⟩ := hs₂
    rintro i ys v t e oe it oi C oC D m₂ h tk E' hJ hv hC hmi hmv F N off ne
    obtain ⟨tv, rfl, hi5⟩ := IntsAre.at' (ns := [1, 5, 3, 3, 5]) (.cons _ _ (.cons _ _ (.cons _ _ (.cons _ _ (.cons _ _ .nil))))) i v (by simpa using hv)
    k_steps
    refine Hold.out (slice3_ints (s := ⟨_, _, _, _, _⟩) F N (hSL.at fun o q => F.keep _ o q) hSI (by omega) (.int _ _) .none (.int _ _) (by decide) ?_)
    intro D6 ws6 ks6 h6 hI6 F6 N6 lt6
    k_steps
    exact hJ.snoc (by decide)
  · obtain ⟨hp2, rfl⟩ := hs₂
    rintro dr ⟨zs, hzs, hzl, hzb⟩
    have hzl : zs.length = 5 := hzl
    k_steps
    have hsgn := sign_in scr.sum
    refine Hold.out (chr_of_range hsgn.1 (by omega) ?_)
    have hsg : ((35 + scr.sum.fmod 127).fmod 128).toNat < 128 ∧ ((35 + scr.sum.fmod 127).fmod 128).toNat ≠ 34 := by omega
    generalize ((35 + scr.sum.fmod 127).fmod 128).toNat = sg at hsg ⊢
    have hun1 := Int.fmod_nonneg_of_pos scr.sum (b := 254) (by decide)
    have hun2 := Int.fmod_lt_of_pos scr.sum (b := 254) (by decide)
    k_steps
    refine Hold.out (PySem.W.kso_max (by assumption) (by assumption) (isList_of (by assumption) (by k_mem)) hzs (by omega) rfl ?_)
    intro h1 M tM k1 F1 N1 hM1 hM2
    k_steps
    refine Hold.out (PySem.W.kso_min (by assumption) (by assumption) (isList_of (by assumption) (by k_mem)) hzs (by omega) rfl ?_)
    intro h2 m1 tm k2 F2 N2 hm1 hm2
    have hMb := hzb _ hM1
    have hmb := hzb _ hm1
    k_steps
    refine Hold.out (max_two_N rfl (by assumption) (by assumption) ?_)
    intro h3 k3 F3 N3
    k_steps
    rename Shared => s1
    rename IsRange _ _ _ _ _ _ _ _ => rg
    have hN : ((span M m1 : Nat) : Int) = (if 4 * (M - m1) - 3 > 1 then 4 * (M - m1) - 3 else 1) + 14 := by unfold span; split <;> omega
    have hN2 : span M m1 ≤ 39 := by split at hN <;> omega
    rw [← hN] at rg
    rename News _ _ _ _ => NX
    rename Fr _ _ _ _ => FX
    refine Hold.out (iter_rangeF (n := span M m1) FX NX rg (small_one (by decide) (by decide) (by omega) (by omega)) (by rw [rangeSize_nat]; omega) ?_)
    intro I' h' F' N' lt'
    clear rg
    obtain ⟨c0, hJ0, hsub0⟩ := JL.of (zs := zs) (N := span M m1) (n := 0) (k := span M m1) FX NX (by k_mem) (by assumption) (by k_mem) (by assumption) (by k_mem) (by k_mem) (by assumption) (by k_mem) (by exact rfl) (by k_mem) (by exact rfl) (by exact rfl) (by exact rfl) (by exact rfl) rfl (by omega) (by show 0 < 15; decide) hzs hzs .nil
    refine ForRest.inv (h₀ := s1.heap) (L := s1.heap.objs.size) (LedL s1.heap.objs.size) (JL zs (span M m1) sg (19 + scr.sum.fmod 254) (M - m1)) rfl (by passes_own) ?turn ?done (span M m1) 0 c0 _ _ _ hJ0 (fun p hp => Nat.ne_of_lt (lt' p (hsub0 p hp))) F' (fun p hp => N' p ?sub)
    case sub =>
      rcases List.mem_cons.mp hp with rfl | hp
      · exact List.mem_cons_self
      · exact List.mem_cons_of_mem _ (hsub0 p hp)
    case done =>
      clear N' lt' F' hsub0 hJ0 NX FX
      rintro i ⟨R, S', W, vr, vs, vw, cr, cs, cw, oT, oW, oR⟩ m h tk ⟨⟨n, rfl, hnk, hwl, _⟩, _⟩ _ _
      exfalso
      obtain ⟨j, hj1, hj2⟩ := (hB zs hzl hzb M m1 hM1 hM2 hm1 hm2).1
      have := run_mono zs (j + 1) (n - (j + 1))
      rw [show j + 1 + (n - (j + 1)) = n by omega] at this
      omega
    case turn =>
    clear N' lt' F' hsub0 hJ0 NX FX
    rintro i k ⟨R, S', W, vr, vs, vw, cr, cs, cw, oT, oW, oR⟩ m h t tk ⟨⟨n, rfl, hnk, hwl, hvr, hvs, hvw, ts, hsince⟩, hring, hwords, ⟨vt, htop⟩, hstart, ⟨tsg, hsign⟩, ⟨tu, hunit⟩, ⟨tsp, hspread⟩⟩ off1 F₁ N₁
    unfold LedL at off1 N₁
    dsimp only at off1 N₁ hring hwords htop hstart hvr hvs hvw hsince hsign hunit hspread
    have offR1 : Off R (s1.heap.objs.size + 1 + 1 + 1 + 1) := seq_ne_cell N₁ (by k_mem) (by k_mem) (list_no_cell _ _) htop
    have offR2 : Off R (s1.heap.objs.size + 1 + 1 + 1) := seq_ne_cell N₁ (by k_mem) (by k_mem) (list_no_cell _ _) hwords
    have offR3 : Off R (s1.heap.objs.size + 1 + 1) := seq_ne_cell N₁ (by k_mem) (by k_mem) (list_no_cell _ _) hring
    have offS1 : Off S' (s1.heap.objs.size + 1 + 1 + 1 + 1) := seq_ne_cell N₁ (by k_mem) (by k_mem) (list_no_cell _ _) htop
    have offS2 : Off S' (s1.heap.objs.size + 1 + 1 + 1) := seq_ne_cell N₁ (by k_mem) (by k_mem) (list_no_cell _ _) hwords
    have offS3 : Off S' (s1.heap.objs.size + 1 + 1) := seq_ne_cell N₁ (by k_mem) (by k_mem) (list_no_cell _ _) hring
    have offW1 : Off W (s1.heap.objs.size + 1 + 1 + 1 + 1) := seq_ne_cell N₁ (by k_mem) (by k_mem) (list_no_cell _ _) htop
    have offW2 : Off W (s1.heap.objs.size + 1 + 1 + 1) := seq_ne_cell N₁ (by k_mem) (by k_mem) (list_no_cell _ _) hwords
    have offW3 : Off W (s1.heap.objs.size + 1 + 1) := seq_ne_cell N₁ (by k_mem) (by k_mem) (list_no_cell _ _) hring
    have offI1 : Off I' (s1.heap.objs.size + 1 + 1 + 1 + 1) := fun q => off1 (_, oT) (by k_mem) q.symm
    have offI2 : Off I' (s1.heap.objs.size + 1 + 1 + 1) := fun q => off1 (_, oW) (by k_mem) q.symm
    have offI3 : Off I' (s1.heap.objs.size + 1 + 1) := fun q => off1 (_, oR) (by k_mem) q.symm
    k_steps
    have hrr := run_ring (z := zs) (B := 8) (fun z hz => hzb z hz) (by decide) n
    have hsl := run_since zs n
    have hsn : n < 39 := by omega
    have hfo := hA zs hzl hzb n
    k_dflt refine Hold.out (lturn_at ((run zs n).since + 1) sg (19 + scr.sum.fmod 254) _ _ _ (by k_asm) (by k_asm) (by k_asm) (by k_asm) (by k_asm) rfl (by k_mem) (by k_mem) hvr (hrr.1.trans hzl) hvs (hrr.2.2.trans hzl) (by omega) hsg (by omega) hrr.2.1 (by decide) (by decide) hfo ?_)
    intro T l' vs' c' x tx h' tk' hvs2 hx F' N'
    have offT1 : Off T (s1.heap.objs.size + 1 + 1 + 1 + 1) := seq_ne_cell N' (by k_mem) (by k_mem) (tup_no_cell _) htop
    have offT2 : Off T (s1.heap.objs.size + 1 + 1 + 1) := seq_ne_cell N' (by k_mem) (by k_mem) (tup_no_cell _) hwords
    have offT3 : Off T (s1.heap.objs.size + 1 + 1) := seq_ne_cell N' (by k_mem) (by k_mem) (tup_no_cell _) hring
    have offl1 : Off l' (s1.heap.objs.size + 1 + 1 + 1 + 1) := seq_ne_cell N' (by k_mem) (by k_mem) (list_no_cell _ _) htop
    have offl2 : Off l' (s1.heap.objs.size + 1 + 1 + 1) := seq_ne_cell N' (by k_mem) (by k_mem) (list_no_cell _ _) hwords
    have offl3 : Off l' (s1.heap.objs.size + 1 + 1) := seq_ne_cell N' (by k_mem) (by k_mem) (list_no_cell _ _) hring
    have hvl : vs' ≠ [] := by
      intro e
      subst e
      have := hvs2.length
      rw [nextRing_len, hrr.1, hzl] at this
      cases this
    have hrr1 := run_ring (z := zs) (B := 8) (fun z hz => hzb z hz) (by decide) (n + 1)
    have hnl : (nextRing (run zs n).ring).length = 5 := by rw [nextRing_len, hrr.1, hzl]
    have hnb : ∀ x ∈ nextRing (run zs n).ring, 0 ≤ x ∧ x < 8 := nextRing_in hrr.2.1 (by decide)
    k_steps
    refine Hold.out (eq_nil (isList_of (by assumption) (by k_mem)) (isList_of (by assumption) (by k_mem)) (Nat.le_of_ble_eq_true rfl) ?_)
    rw [decide_eq_false hvl]
    k_steps
    all_goals refine Hold.out (PySem.W.kso_max (by assumption) (by assumption) (isList_of (by assumption) (by k_mem)) hvs2 (by omega) rfl ?_)
    all_goals intro h7 M7 t7 k7 F7 N7 hM7 hM8
    all_goals have hM9 := topOf_eq (fun x hx => (hnb x hx).1) hM7 hM8
    all_goals k_steps
    all_goals refine Hold.out (LCt.CompSrcT.ledger rfl (by assumption) (by assumption) (by k_mem) (by rw [List.size_toArray, hvs2.length, hnl, sizeLine_eq]; decide) (fun g => ?_))
    all_goals
      subst hM9
      refine compT_inv (n := vs'.toArray.size) (fun i ys => IntsAre ys (((nextRing (run zs n).ring).take i).filter fun x => decide (0 < x ∧ x < topOf (nextRing (run zs n).ring)))) ?_ ?_ _ 0 [] (Nat.zero_add _) IntsAre.nil
      · rintro i ys v I oI C oC D m₂ h tk E' hi hys hv0 hC hv F N off ne
        obtain ⟨tv, rfl, hi'⟩ := IntsAre.at' hvs2 i v (by simpa using hv0)
        k_steps
        · exact filt_yes hys hi' (by rw [decide_eq_true_eq]; constructor <;> assumption)
        · exact filt_no hys hi' (by rw [decide_eq_true_eq]; omega)
        · exact filt_no hys hi' (by rw [decide_eq_true_eq]; omega)
      intro ys hys
      have hbn := betw_nil hys (by rw [List.size_toArray, hvs2.length]; omega)
      k_steps
      refine Hold.out (eq_nil (isList_of (by assumption) (by k_mem)) (isList_of (by assumption) (by k_mem)) (Nat.le_of_ble_eq_true rfl) ?_)
      by_cases hy : ys = []
      · rw [decide_eq_true hy]
        k_steps
        rename IsRange _ _ _ _ _ _ _ _ => rg2
        refine Hold.out (LCt.CompSrcT.range (n := 4) rfl (by assumption) (by assumption) rg2 (by decide) rfl (by decide) (fun g => ?_))
        clear rg2
        refine compT_inv (n := 4) (fun i ys => IntsAre ys (((List.range i).filter fun k => decide (0 < (nextRing (run zs n).ring).getD k 0)).map fun k => (8 : Int) / 2 ^ k)) ?_ ?_ 4 0 [] rfl IntsAre.nil
        · rintro i ys v I oI C oC D m₂ h tk E' hi hys ⟨tv, rfl⟩ hC hv F N off ne
          k_steps
          · exact code_yes hys (by omega)
          · exact code_no hys (by omega)
        intro qs hqs
        have hci := code_in (nextRing (run zs n).ring)
        k_steps
        k_dflt refine Hold.out (int2ap_at (x := code (nextRing (run zs n).ring)) (by k_asm) (by k_asm) (by k_asm) (by k_asm) (by k_asm) rfl (by omega) (by decide) (by decide) ?_)
        intro t8 h8 k8 F8 N8
        have hbt := hbn.mp hy
        have hw1 := run_words_yes hbt
        have hvw1 := hvw.append (BytesAre.cons (t := t8) (b := (word (code (nextRing (run zs n).ring)).natAbs).toArray) .nil)
        rw [← hw1] at hvw1
        have hwz : ((vw ++ [Value.bytes (word (code (nextRing (run zs n).ring)).natAbs).toArray t8]).toArray.size : Int) = ((run zs (n + 1)).words.length : Int) := by rw [List.size_toArray, hvw1.length]
        k_steps
        refine Hold.out (add_made (by assumption) (by assumption) (by k_mem) (by k_mem) (by rw [hvw.length]; show _ + 1 ≤ _; omega) ?_)
        intro D9 h9 F9 N9 lt9
        have lt10 := lt9
        k_lt lt10
        k_steps
        refine Hold.out (PySem.Calls.call_len_list (isList_of (by assumption) (by k_mem)) (by rw [hwz]; have := run_words zs n; omega) ?_)
        rw [hwz]
        k_steps
        · rename IsRange _ _ _ _ _ _ _ _ => rg3
          have hlen : (run zs (n + 1)).words.length = 15 := by omega
          have hfin := (hB zs hzl hzb M m1 hM1 hM2 hm1 hm2).2 (n + 1) hlen
          rw [if_pos (by omega)] at hfin
          refine Hold.out (LCt.CompSrcT.range (n := 15) rfl (by assumption) (by assumption) rg3 (by decide) rfl (by decide) (fun g => ?_))
          clear rg3
          refine compT_inv (n := 15) (fun i ys => ys = []) ?_ ?_ 15 0 [] rfl rfl
          · rintro i ys v I oI C oC D m₂ h tk E' hi rfl ⟨tv, rfl⟩ hC hv F N off ne
            k_steps
            refine Hold.out (notIn_bytes (isList_of (by assumption) (by k_mem)) hvw1 ?_)
            have e66 : (66 + (0 + (i : Int))).toNat = 66 + i := by omega
            try rw [e66]
            rw [decide_eq_true (hfin i hi)]
            k_steps
          · rintro ys rfl
            k_steps
            refine Hold.out (eq_nil (vs := []) (isList_of (by assumption) (by k_mem)) (isList_of (by assumption) (by k_mem)) (Nat.le_of_ble_eq_true rfl) ?_)
            rw [decide_eq_true rfl]
            k_steps
        · have hlen : (run zs (n + 1)).words.length = 15 := by omega
          have hfin := (hB zs hzl hzb M m1 hM1 hM2 hm1 hm2).2 (n + 1) hlen
          rw [if_neg (by omega)] at hfin
          rw [hfin] at hvw1
          refine Hold.out (eq_bytesL (isList_of (by assumption) (by k_mem)) (isList_of (by assumption) (by k_mem)) hvw1 (bs := List.replicate 15 #[]) (cs := List.replicate 15 #[]) (.cons (.cons (.cons (.cons (.cons (.cons (.cons (.cons (.cons (.cons (.cons (.cons (.cons (.cons (.cons .nil))))))))))))))) (Nat.le_of_ble_eq_true rfl) ?_)
          rw [decide_eq_true rfl]
          k_steps
        · have hrw := run_words zs n
          rename News _ _ _ _ => NE
          rename Fr _ _ _ _ => FE
          exact turn_end FE NE (by k_mem) offI1 offI2 offI3 (by k_mem) (by assumption) (by k_mem) (by assumption) (by k_mem) (by k_mem) (by assumption) (by k_mem) (by first | exact rfl | with_unfolding_all assumption) (by k_mem) (by exact rfl) (by with_unfolding_all assumption) (by with_unfolding_all assumption) (by with_unfolding_all assumption) (run_since_eq hx) (by omega) (by omega) hvs2 (by first | exact start_yes hvs2 hx (by assumption) | exact start_no hvs hx (by assumption)) hvw1
      · rw [decide_eq_false hy]
        have hbt : ¬ betw (nextRing (run zs n).ring) = [] := fun e => hy (hbn.mpr e)
        have hw1 := run_words_no hbt
        have hvw1 := hvw
        rw [← hw1] at hvw1
        have hwl1 : (run zs (n + 1)).words.length < 15 := by rw [hw1]; exact hwl
        have hwz : ((vw).toArray.size : Int) = ((run zs (n + 1)).words.length : Int) := by rw [List.size_toArray, hvw1.length]
        k_steps
        refine Hold.out (PySem.Calls.call_len_list (isList_of (by assumption) (by k_mem)) (by rw [hwz]; omega) ?_)
        rw [hwz]
        have hne : ¬ (((run zs (n + 1)).words.length : Nat) : Int) = 15 := by omega
        k_steps
        all_goals try (exfalso; omega)
        rename News _ _ _ _ => NE
        rename Fr _ _ _ _ => FE
        exact turn_end FE NE (by k_mem) offI1 offI2 offI3 (by k_mem) (by assumption) (by k_mem) (by assumption) (by k_mem) (by k_mem) (by assumption) (by k_mem) (by first | exact rfl | with_unfolding_all assumption) (by k_mem) (by exact rfl) (by with_unfolding_all assumption) (by with_unfolding_all assumption) (by with_unfolding_all assumption) (run_since_eq hx) (by omega) hwl1 hvs2 (by first | exact start_yes hvs2 hx (by assumption) | exact start_no hvs hx (by assumption)) hvw1)
end Mine
theorem PySem.Challenge.cw_pm0003_02_holds : PySem.Challenge.rw_pm0003_02.Holds :=
  Mine.X2 Mine.askA Mine.askB
