import PyProof.Rows.All
import Wide.All
import OpenK.AllK
import Wide.FinOn
import PySem.Challenge.RW_ki0064_01
open PySem PySem.W PyProof.Rows
set_option Elab.async false
namespace Mine
set_option maxRecDepth 100000 in
set_option maxHeartbeats 8000000 in
open_top hd for PySem.Challenge.rw_ki0064_01
end Mine

namespace Mine
section
variable {M : Model} {A : Around} {E : Value → Shared → Prop} {s : Shared} {env : Env} {x : Str} {t : Tok} {Q : Unit → Shared → Prop}
theorem store_kind4 {n : Int} (h6 : wpAny M A (storeName env x (.int 6 t)) Q E s) (h7 : wpAny M A (storeName env x (.int 7 t)) Q E s)
    (hb : ∀ kk : Int, 2 ≤ kk → kk ≤ 3 → wpAny M A (storeName env x (.int kk t)) Q E s)
    (ht : ∀ kk : Int, 0 ≤ kk → kk < 6 → kk ≠ 2 → kk ≠ 3 → wpAny M A (storeName env x (.int kk t)) Q E s) :
    wpAny M A (storeName env x (.int (Int.fmod n 8) t)) Q E s := by
  have h0 : 0 ≤ Int.fmod n 8 := Int.fmod_nonneg_of_pos n (by decide)
  have h1 : Int.fmod n 8 < 8 := Int.fmod_lt_of_pos n (by decide)
  generalize Int.fmod n 8 = k at *
  by_cases e6 : k = 6
  · subst e6; exact h6
  by_cases e7 : k = 7
  · subst e7; exact h7
  by_cases e2 : 2 ≤ k ∧ k ≤ 3
  · exact hb k e2.1 e2.2
  · exact ht k h0 (by omega) (by omega) (by omega)
theorem store_rest {n : Int} (h : ∀ r : Int, 0 ≤ r → r < 10000000000000000000000000000000000000000 → wpAny M A (storeName env x (.int r t)) Q E s) :
    wpAny M A (storeName env x (.int (Int.fdiv (Int.fmod n (10 ^ Int.toNat 40)) 8) t)) Q E s := by
  have e : (10 : Int) ^ Int.toNat 40 = 10000000000000000000000000000000000000000 := by decide
  rw [e]
  have h0 : 0 ≤ Int.fmod n 10000000000000000000000000000000000000000 := Int.fmod_nonneg_of_pos n (by decide)
  have h1 : Int.fmod n 10000000000000000000000000000000000000000 < 10000000000000000000000000000000000000000 := Int.fmod_lt_of_pos n (by decide)
  generalize Int.fmod n 10000000000000000000000000000000000000000 = k at *
  rw [Int.fdiv_eq_ediv_of_nonneg _ (by decide)]
  refine h _ (by omega) (by omega)
end
end Mine

namespace Mine
theorem text_zero {r : Int} (h0 : 0 ≤ r) : (Str.ofString (toString r) == Str.ofString "0") = decide (r = 0) := by
  obtain ⟨m, rfl⟩ := Int.eq_ofNat_of_zero_le h0
  by_cases h : m = 0
  · subst h; rfl
  · rw [decide_eq_false (by omega)]
    refine beq_eq_false_iff_ne.mpr fun e => h ?_
    have e2 := congrArg (fun x : Str => PySem.NumText.digitsVal x.cps.toList) e
    simp only [KIN.signs_num, KIN.val_back] at e2
    rw [e2]; rfl
section
variable {prog : Program} {w : World} {A : Around} {E : Value → Shared → Prop} {s : Shared} {t u : Tok}
theorem eq_zero_text {r : Int} {Q : Value → Shared → Prop} (h0 : 0 ≤ r) (h : Q (.bool (decide (r = 0))) s) :
    wpAny (model prog w) A (compareOp .Eq (.str (Str.ofString (toString r)) t) (.str (Str.ofString "0") u)) Q E s :=
  PyProof.Rows.eq_str (by rw [text_zero h0]; exact h)
theorem ne_same {x y : Str} {Q : Value → Shared → Prop} (e : x = y) (h : Q (.bool false) s) :
    wpAny (model prog w) A (compareOp .NotEq (.str x t) (.str y u)) Q E s := by
  subst e
  exact PyProof.Rows.ne_str (by rw [bne_self_eq_false]; exact h)
theorem head_ne {c : Nat} {x : Str} (h : c ≠ 48) : ((⟨#[c]⟩ : Str) ++ x == Str.ofString "0") = false := by
  refine beq_eq_false_iff_ne.mpr fun e => h ?_
  have e2 := congrArg (fun x : Str => x.cps.toList) e
  simp only [Str.cps_append, Array.toList_append] at e2
  have e3 : (Str.ofString "0").cps.toList = [48] := by decide
  rw [e3] at e2
  simpa using congrArg List.head? e2
theorem eq_head_ne {c : Nat} {x y : Str} {Q : Value → Shared → Prop} (e : y = (⟨#[c]⟩ : Str) ++ x) (hc : c ≠ 48) (h : Q (.bool false) s) :
    wpAny (model prog w) A (compareOp .Eq (.str y t) (.str (Str.ofString "0") u)) Q E s :=
  PyProof.Rows.eq_str (by rw [e, head_ne hc]; exact h)
theorem eq_zero_zero {Q : Value → Shared → Prop} (h : Q (.bool true) s) :
    wpAny (model prog w) A (compareOp .Eq (.str (Str.ofString "0") t) (.str (Str.ofString "0") u)) Q E s :=
  PyProof.Rows.eq_str h
theorem assoc3 (a x b : Str) : a ++ x ++ b = a ++ (x ++ b) := by
  refine Str.ext' ?_
  simp only [Str.cps_append, Array.append_assoc]
theorem msg_fits {y : Str} (hy : y.length ≤ 1000) : (Str.empty ++ Str.ofString "address type of " ++ y ++ Str.ofString " unrecognized").length ≤ sizeLine := by
  rw [sizeLine_eq, Str.length_append, Str.length_append, Str.length_append]
  have h1 : Str.empty.length = 0 := rfl
  have h2 : (Str.ofString "address type of ").length = 16 := by decide
  have h3 : (Str.ofString " unrecognized").length = 13 := by decide
  omega
theorem join_out {M : Model} {o o' : Str} {Q : Value → Shared → Prop} (hz : o.length ≤ sizeLine) (e : o = o') (h : Q (.str o' s.toks) { s with toks := s.toks + 1 }) :
    wpAny M A (joinParts o []) Q E s := by
  subst e
  exact joinParts_nil h hz
theorem msg_eq (y : Str) : Str.empty ++ Str.ofString "address type of " ++ y ++ Str.ofString " unrecognized" = Str.ofString "address type of " ++ y ++ Str.ofString " unrecognized" :=
  congrArg (fun a => a ++ y ++ Str.ofString " unrecognized") (Str.empty_append _)
theorem join_msg {M : Model} {y z : Str} {Q : Value → Shared → Prop} (hy : y.length ≤ 1000)
   (hz : z = Str.ofString "address type of " ++ y ++ Str.ofString " unrecognized") (h : Q (.str z s.toks) { s with toks := s.toks + 1 }) :
    wpAny M A (joinParts (Str.empty ++ Str.ofString "address type of " ++ y ++ Str.ofString " unrecognized") []) Q E s := by
  have h1 := msg_fits hy
  have h2 := (msg_eq y).trans hz.symm
  generalize Str.empty ++ Str.ofString "address type of " ++ y ++ Str.ofString " unrecognized" = o at *
  exact join_out h1 h2 h
theorem join_msgE {M : Model} {env : Env} {y z : Str} {Q : Value → Shared → Prop} (hy : y.length ≤ 1000)
   (hz : z = Str.ofString "address type of " ++ y ++ Str.ofString " unrecognized") (h : Q (.str z s.toks) { s with toks := s.toks + 1 }) :
    wpAny M A (joinParts (Str.empty ++ Str.ofString "address type of " ++ y ++ Str.ofString " unrecognized") (evalEach [] env)) Q E s := by
  have h1 := msg_fits hy
  have h2 := (msg_eq y).trans hz.symm
  generalize Str.empty ++ Str.ofString "address type of " ++ y ++ Str.ofString " unrecognized" = o at *
  exact joinParts_nilE (join_out h1 h2 h)
theorem fmod7_cases (r : Int) : Int.fmod r 7 = 0 ∨ Int.fmod r 7 = 1 ∨ Int.fmod r 7 = 2 ∨ Int.fmod r 7 = 3 ∨ Int.fmod r 7 = 4 ∨ Int.fmod r 7 = 5 ∨ Int.fmod r 7 = 6 := by
  have h0 : 0 ≤ Int.fmod r 7 := Int.fmod_nonneg_of_pos r (by decide)
  have h1 : Int.fmod r 7 < 7 := Int.fmod_lt_of_pos r (by decide)
  omega
theorem mod7_known {r c : Int} {Q : Value → Shared → Prop} (e : Int.fmod r 7 = c) (h : Q (.int c s.toks) { s with toks := s.toks + 1 }) :
    wpAny (model prog w) A (binaryOp .Mod (.int r t) (.int 7 u)) Q E s := PyProof.Rows.mod_int' (by decide) (by rw [e]; exact h)
theorem mod7_cases {r : Int} {Q : Value → Shared → Prop}
    (h0 : Int.fmod r 7 = 0 → Q (.int 0 s.toks) { s with toks := s.toks + 1 })
    (h1 : Int.fmod r 7 = 1 → Q (.int 1 s.toks) { s with toks := s.toks + 1 })
    (h2 : Int.fmod r 7 = 2 → Q (.int 2 s.toks) { s with toks := s.toks + 1 })
    (h3 : Int.fmod r 7 = 3 → Q (.int 3 s.toks) { s with toks := s.toks + 1 })
    (h4 : Int.fmod r 7 = 4 → Q (.int 4 s.toks) { s with toks := s.toks + 1 })
    (h5 : Int.fmod r 7 = 5 → Q (.int 5 s.toks) { s with toks := s.toks + 1 })
    (h6 : Int.fmod r 7 = 6 → Q (.int 6 s.toks) { s with toks := s.toks + 1 }) :
    wpAny (model prog w) A (binaryOp .Mod (.int r t) (.int 7 u)) Q E s := by
  rcases fmod7_cases r with e | e | e | e | e | e | e
  · exact mod7_known e (h0 e)
  · exact mod7_known e (h1 e)
  · exact mod7_known e (h2 e)
  · exact mod7_known e (h3 e)
  · exact mod7_known e (h4 e)
  · exact mod7_known e (h5 e)
  · exact mod7_known e (h6 e)
theorem mod3_named {r : Int} {Q : Value → Shared → Prop} (h : 0 ≤ Int.fmod r 3 → Int.fmod r 3 < 3 → (Str.ofString (toString (Int.fmod r 3))).length ≤ 10 → Q (.int (Int.fmod r 3) s.toks) { s with toks := s.toks + 1 }) :
    wpAny (model prog w) A (binaryOp .Mod (.int r t) (.int 3 u)) Q E s := by
  have h0 : 0 ≤ Int.fmod r 3 := Int.fmod_nonneg_of_pos r (by decide)
  have h1 : Int.fmod r 3 < 3 := Int.fmod_lt_of_pos r (by decide)
  exact PyProof.Rows.mod_int' (by decide) (h h0 h1 (KT.len_num h0 (by omega)))
end
section
variable {M : Model} {A : Around} {E : Value → Shared → Prop} {s : Shared} {env : Env} {x : Str} {t : Tok} {Q : Unit → Shared → Prop}
theorem store_rest' {n : Int} (h : ∀ r : Int, 0 ≤ r → r < 10000000000000000000000000000000000000000 → (Str.ofString (toString r)).length ≤ 40 → wpAny M A (storeName env x (.int r t)) Q E s) :
    wpAny M A (storeName env x (.int (Int.fdiv (Int.fmod n (10 ^ Int.toNat 40)) 8) t)) Q E s :=
  store_rest fun r h0 h1 => h r h0 h1 (toString_length_le h0 (by decide) (Int.lt_of_lt_of_le h1 (by decide)))
end
end Mine

namespace Mine
theorem pair_text (I : Str) : tupleText [I, reprText (Str.ofString "a")] = Str.ofString "(" ++ I ++ Str.ofString ", 'a')" := by
  have e1 : reprText (Str.ofString "a") = Str.mk #[39, 97, 39] := by decide +kernel
  have e2 : Str.ofString "(" = Str.mk #[40] := by decide +kernel
  have e3 : Str.ofString ", 'a')" = Str.mk #[44, 32, 39, 97, 39, 41] := by decide +kernel
  have e4 : Str.ofString ", " = Str.mk #[44, 32] := by decide +kernel
  have e5 : Str.ofString ")" = Str.mk #[41] := by decide +kernel
  show Str.ofString "(" ++ (I ++ Str.ofString ", " ++ reprText (Str.ofString "a")) ++ Str.ofString ")" = _
  rw [e1, e2, e3, e4, e5]
  refine Str.ext' ?_
  simp only [Str.cps_append, Array.append_assoc]
  rfl
theorem pair_shown (i : Int) : (PyData.tuple [.int i, .str (Str.ofString "a")]).shown = Str.ofString "(" ++ Str.ofString (toString i) ++ Str.ofString ", 'a')" := pair_text _
section
variable {prog : Program} {w : World} {A : Around} {E : Value → Shared → Prop} {s : Shared} {h₀ : Heap} {L : Addr} {m : Str → Option Value} {news : List (Addr × Obj)} {t u : Tok}
theorem pair_fits {i : Int} (h0 : 0 ≤ i) (h1 : i < 3) : (Str.ofString "(" ++ Str.ofString (toString i) ++ Str.ofString ", 'a')").length ≤ 100 := by
  have hl := KT.len_num h0 (by omega)
  rw [Str.length_append, Str.length_append]
  have h1 : (Str.ofString "(").length = 1 := by decide
  have h2 : (Str.ofString ", 'a')").length = 6 := by decide
  omega
theorem wrap_fits {p : Str} (hp : p.length ≤ 40) : (Str.ofString "[" ++ p ++ Str.ofString "]").length ≤ 100 := by
  rw [Str.length_append, Str.length_append]
  have h1 : (Str.ofString "[").length = 1 := by decide
  have h2 : (Str.ofString "]").length = 1 := by decide
  omega
theorem repr_pair {D : Addr} {i : Int} {ti tx : Tok} {n : Nat} {Q : Value → Shared → Prop} (F : Fr h₀ L s.heap m) (N : News h₀ L s.heap news)
    (hm : (D, ({ cls := .type "tuple", data := .seq #[.int i ti, .str (Str.ofString "a") tx] n } : Obj)) ∈ news) (h0 : 0 ≤ i) (h1 : i < 3) (hg : A.guards = some []) (hu : A.units + 3 < cLine)
    (hQ : ∀ h' u tk, Fr h₀ L h' m → News h₀ L h' news → (Str.ofString "(" ++ Str.ofString (toString i) ++ Str.ofString ", 'a')").length ≤ 100 → Q (.str (Str.ofString "(" ++ Str.ofString (toString i) ++ Str.ofString ", 'a')") u) { s with heap := h', toks := tk }) :
    wpAny (model prog w) A (pyReprObj (.ref D)) Q E s := by
  have r : Reads s.heap (.ref D) (PyData.tuple [.int i, .str (Str.ofString "a")]) ([] ++ ([] ++ [])) := .tuple (News.get N hm) rfl rfl (.cons (.int i ti) (.cons (.str _ tx) .nil))
  refine pyReprObj_of_reads r ?_ (fun h => by cases h) hg ?_ (fun _ _ e => e) (fun h' u tk hk => ?_) ?_
  · have : i = 0 ∨ i = 1 ∨ i = 2 := by omega
    rcases this with e | e | e <;> subst e <;> decide +kernel
  · have : (PyData.tuple [.int i, .str (Str.ofString "a")]).depth ≤ 3 := by
      simp [PyData.depth, PyData.depthAll]
    omega
  · rw [pair_shown]
    exact hQ h' u tk (F.keptAll hk) (N.grown hk) (pair_fits h0 h1)
  · rw [pair_shown, sizeLine_eq]
    have := pair_fits h0 h1
    omega
theorem repr_true {Q : Value → Shared → Prop} (h : (Str.ofString "True").length ≤ 10 → Q (.str (Str.ofString "True") s.toks) { s with toks := s.toks + 1 }) : wpAny (model prog w) A (pyReprObj (.bool true)) Q E s :=
  pyReprObj_bool (h (by decide))
theorem add_S {x y : Str} {Q : Value → Shared → Prop} (hx : x.length ≤ 200) (hy : y.length ≤ 200) (h : ∀ t' k, (x ++ y).length ≤ x.length + y.length → Q (.str (x ++ y) t') { s with toks := k }) :
    wpAny (model prog w) A (binaryOp .Add (.str x t) (.str y u)) Q E s :=
  KXadd.add hx hy (by decide) fun t' k hl => h t' k hl.2
theorem add_L {x y : Str} {Q : Value → Shared → Prop} (ha : x.length ≤ 20) (hy : y.length ≤ 200) (h : ∀ t' k, (x ++ y).length ≤ y.length + 20 → Q (.str (x ++ y) t') { s with toks := k }) :
    wpAny (model prog w) A (binaryOp .Add (.str x t) (.str y u)) Q E s :=
  add_S (by omega) hy fun t' k hl => h t' k (by omega)
theorem add_R {x y : Str} {Q : Value → Shared → Prop} (hx : x.length ≤ 200) (hb : y.length ≤ 20) (h : ∀ t' k, (x ++ y).length ≤ x.length + 20 → Q (.str (x ++ y) t') { s with toks := k }) :
    wpAny (model prog w) A (binaryOp .Add (.str x t) (.str y u)) Q E s :=
  add_S hx (by omega) fun t' k hl => h t' k (by omega)
theorem isi_list_bytes {D : Addr} {items : Array Value} {n : Nat} {Q : Value → Shared → Prop} (N : News h₀ L s.heap news) (hm : (D, ({ cls := .type "list", data := .seq items n } : Obj)) ∈ news) (h : Q (.bool false) { s with toks := s.toks + 1 }) :
    wpAny (model prog w) A (call (.builtin "isinstance") [.ref D, .type "bytes"]) Q E s := IsiPair.isList_bytes (News.isList N hm) (fun _ _ e => e) h
theorem isi_list_str {D : Addr} {items : Array Value} {n : Nat} {Q : Value → Shared → Prop} (N : News h₀ L s.heap news) (hm : (D, ({ cls := .type "list", data := .seq items n } : Obj)) ∈ news) (h : Q (.bool false) { s with toks := s.toks + 1 }) :
    wpAny (model prog w) A (call (.builtin "isinstance") [.ref D, .type "str"]) Q E s := IsiPair.isList_str (News.isList N hm) (fun _ _ e => e) h
theorem isi_tup_bytes {D : Addr} {items : Array Value} {n : Nat} {Q : Value → Shared → Prop} (N : News h₀ L s.heap news) (hm : (D, ({ cls := .type "tuple", data := .seq items n } : Obj)) ∈ news) (h : Q (.bool false) { s with toks := s.toks + 1 }) :
    wpAny (model prog w) A (call (.builtin "isinstance") [.ref D, .type "bytes"]) Q E s := IsiPair.tuple_bytes (News.get N hm) rfl h
theorem isi_tup_str {D : Addr} {items : Array Value} {n : Nat} {Q : Value → Shared → Prop} (N : News h₀ L s.heap news) (hm : (D, ({ cls := .type "tuple", data := .seq items n } : Obj)) ∈ news) (h : Q (.bool false) { s with toks := s.toks + 1 }) :
    wpAny (model prog w) A (call (.builtin "isinstance") [.ref D, .type "str"]) Q E s := IsiPair.tuple_str (News.get N hm) rfl h
theorem eq_True_zero {Q : Value → Shared → Prop} (h : Q (.bool false) s) :
    wpAny (model prog w) A (compareOp .Eq (.str (Str.ofString "True") t) (.str (Str.ofString "0") u)) Q E s :=
  PyProof.Rows.eq_str (by rw [show (Str.ofString "True" == Str.ofString "0") = false from by decide +kernel]; exact h)
end
end Mine

namespace Mine
/-- the sign that the scan writes at the number n (behind its first step) -/
def sgn (n : Int) : Int := ([0, 97, 47, 48, 255] : List Int).getD (Int.fmod n 5).toNat 0
/-- what the while of _law_signs keeps: nothing taken yet, or the first sign is the start's own -/
def Sg (n0 number : Int) (row : List Int) : Prop := (∀ x ∈ row, 0 ≤ x ∧ x < 256) ∧ ((row = [] ∧ number = n0) ∨ (0 < n0 ∧ ∃ t, row = sgn (n0 - 1) :: t))
theorem sgn_byte (n : Int) : 0 ≤ sgn n ∧ sgn n < 256 := by
  have h0 : 0 ≤ Int.fmod n 5 := Int.fmod_nonneg_of_pos n (by decide)
  have h1 : Int.fmod n 5 < 5 := Int.fmod_lt_of_pos n (by decide)
  unfold sgn
  generalize Int.fmod n 5 = k at *
  have : k = 0 ∨ k = 1 ∨ k = 2 ∨ k = 3 ∨ k = 4 := by omega
  rcases this with e | e | e | e | e <;> subst e <;> decide
theorem sg_start {n : Int} (h0 : 0 ≤ n) (h1 : n < 781) : 0 ≤ n ∧ ((([] : List Int).length : Nat) : Int) + n ≤ 780 ∧ Sg n n [] :=
  ⟨h0, by simp only [List.length_nil]; omega, (fun _ h => nomatch h), .inl ⟨rfl, rfl⟩⟩
theorem sg_step {n0 n : Int} {row : List Int} (h : Sg n0 n row) (h0 : 0 ≤ n) (hl : (row.length : Int) + n ≤ 780) (hp : 0 < n) :
    0 ≤ Int.fdiv (n - 1) 5 ∧ ((row ++ [([0, 97, 47, 48, 255] : List Int).getD (Int.fmod (n - 1) 5).toNat 0]).length : Int) + Int.fdiv (n - 1) 5 ≤ 780 ∧
      Sg n0 (Int.fdiv (n - 1) 5) (row ++ [([0, 97, 47, 48, 255] : List Int).getD (Int.fmod (n - 1) 5).toNat 0]) := by
  rw [Int.fdiv_eq_ediv_of_nonneg _ (by decide)]
  refine ⟨by omega, ?_, ?_, ?_⟩
  · rw [List.length_append, List.length_singleton]
    omega
  · intro x hx
    rcases List.mem_append.mp hx with hx | hx
    · exact h.1 x hx
    · rw [List.mem_singleton.mp hx]
      exact sgn_byte (n - 1)
  · refine .inr ?_
    rcases h.2 with ⟨e1, e2⟩ | ⟨e1, t, e2⟩
    · subst e1; subst e2
      exact ⟨hp, [], rfl⟩
    · subst e2
      exact ⟨e1, t ++ [_], rfl⟩
theorem sg_zero {n0 n : Int} {row : List Int} (h : Sg n0 n row) (h0 : 0 ≤ n) (h1 : ¬ 0 < n) : Sg n0 0 row := by
  have e : n = 0 := by omega
  subst e
  exact h
theorem sg_meas {n : Int} (hp : 0 < n) : (Int.fdiv (n - 1) 5).toNat < n.toNat := by
  rw [Int.fdiv_eq_ediv_of_nonneg _ (by decide)]
  omega
theorem ite_ieq_ne {a b : Int} {p q : Prop} (h : a ≠ b) (hq : q) : if (a == b) = true then p else q := by
  rw [if_neg (by simpa using h)]; exact hq
theorem ite_ieq_eq {a b : Int} {p q : Prop} (h : a = b) (hp : p) : if (a == b) = true then p else q := by
  rw [if_pos (by simpa using h)]; exact hp
section
variable {prog : Program} {w : World} {A : Around} {E : Value → Shared → Prop} {s : Shared} {t u : Tok}
theorem mod781_named {r : Int} {Q : Value → Shared → Prop} (h : 0 ≤ Int.fmod r 781 → Int.fmod r 781 < 781 → Q (.int (Int.fmod r 781) s.toks) { s with toks := s.toks + 1 }) :
    wpAny (model prog w) A (binaryOp .Mod (.int r t) (.int 781 u)) Q E s :=
  PyProof.Rows.mod_int' (by decide) (h (Int.fmod_nonneg_of_pos r (by decide)) (Int.fmod_lt_of_pos r (by decide)))
end
end Mine

namespace Mine
/-- what a call of _law_signs (it lies at 28) gives back, from any frame -/
def SignsTell (prog : Program) (w : World) (K : Frag) (p : Program) (loose : List Str) (mean : ExcName → Option Value) (mg mb : Str → Option Value) : Prop :=
  ∀ (dp un : Nat) (gd : Option (List Code)) (cn : Str) (cs : Scope) (a : Addr) (ccd : Value) (cl : List (Str × Addr)) (outer : List Env) (A₀ : Around) (base h₀ : Heap) (L : Addr) (m : Str → Option Value) (news : List (Addr × Obj)) (s : Shared) (r : Int) (t : Tok)
    (Q E : Value → Shared → Prop),
    Below A₀ base outer h₀ → Fr h₀ L s.heap m → K.In h₀ → News h₀ L s.heap news → Top p loose mean mg mb h₀ → cs.kind = .function → dp + 1 < recursionLimit → un + 8 < cLine →
    (∀ (l : Addr) (ws : List Value) (row : List Int) (n : Nat) (h' : Heap) (tk' : Nat), Fr h₀ L h' m → News h₀ L h' ((l, W.listOf ws.toArray n) :: news) → (∀ q ∈ news, q.1 < l) → IntsAre ws row → (row.length : Int) ≤ 780 → Sg (Int.fmod r 781) 0 row → Q (.ref l) { s with heap := h', toks := tk' }) →
    wpAny (model prog w) (ktrTop dp un gd cn cs L a ccd cl outer) (call (.ref 28) [.int r t]) Q E s
section
variable {prog : Program} {w : World} {A : Around} {E : Value → Shared → Prop} {Q : Flow → Shared → Prop} {s : Shared} {env : Env} {h₀ : Heap} {L : Addr}
abbrev SgSt := Int × Tok × List Value × List Int × Nat
theorem signs_while {test : Expr} {body : List Stmt} {pos : Pos} {m₀ : Str → Option Value} {l : Addr} {k0 : Nat} {n0 : Int} {t0 : Tok} {news : List (Addr × Obj)}
    (F : Fr h₀ L s.heap m₀) (N : News h₀ L s.heap ((l, W.listOf #[] k0) :: news)) (hm : m₀ (Str.ofString "number") = some (.int n0 t0)) (h0 : 0 ≤ n0) (h1 : n0 < 781)
    (turn : ∀ (n : Int) (tn : Tok) (ws : List Value) (row : List Int) (k : Nat) (h : Heap) (tk : Nat), IntsAre ws row → 0 ≤ n → (row.length : Int) + n ≤ 780 → Sg n0 n row →
      Fr h₀ L h (fun z => if z = Str.ofString "number" then some (.int n tn) else m₀ z) → News h₀ L h ((l, W.listOf ws.toArray k) :: news) → KstMark →
      wpAny (model prog w) A (isTrue test env (eval test env)) (fun b s₂ =>
        if b = true then wpAny (model prog w) A (execs body env) (KswPost h₀ L s (fun c : SgSt => (l, W.listOf c.2.2.1.toArray c.2.2.2.2) :: news) (fun c => [(Str.ofString "number", .int c.1 c.2.1)]) (fun c => IntsAre c.2.2.1 c.2.2.2.1) [] m₀
          (fun c => 0 ≤ c.1 ∧ (c.2.2.2.1.length : Int) + c.1 ≤ 780 ∧ Sg n0 c.1 c.2.2.2.1) (fun c => c.1.toNat) Q (n, tn, ws, row, k)) E s₂ else Q .next s₂) E { s with heap := h, toks := tk })
    (hE : PassesOwn (model prog w) A env E) :
    wpAny (model prog w) A (exec (.While test body [] pos) env) Q E s := by
  refine ksw_while (σ := SgSt) (fun c => (l, W.listOf c.2.2.1.toArray c.2.2.2.2) :: news) (fun c => [(Str.ofString "number", .int c.1 c.2.1)]) (fun c => IntsAre c.2.2.1 c.2.2.2.1) []
    (fun c => 0 ≤ c.1 ∧ (c.2.2.2.1.length : Int) + c.1 ≤ 780 ∧ Sg n0 c.1 c.2.2.2.1) (fun c => c.1.toNat) (n0, t0, [], [], k0) F N IntsAre.nil (fun p hp => ?_) (sg_start h0 h1) (fun c u h tk hf hp F' N' => ?_) hE
  · rw [List.mem_singleton.mp hp]; exact hm
  · obtain ⟨n, tn, ws, row, k⟩ := c
    refine turn n tn ws row k h tk hf hp.1 hp.2.1 hp.2.2 ?_ N' kstMark
    exact F'
end
end Mine

namespace Mine
local macro_rules | `(tactic| walk_at "binaryOp Mod int int") => `(tactic| (k_here; (with_reducible show wpAny _ _ (binaryOp _ _ (Value.int 781 _)) _ _ _); refine Mine.mod781_named ?_; intro hm70 hm71))
local macro_rules | `(tactic| walk_at "exec While Compare cons nil") => `(tactic| (k_here; (with_unfolding_all refine' Mine.signs_while ?kF ?kN ?km ?k0 ?k1 ?_ ?kE); (case kF => k_asm); (case kN => k_asm); (case km => with_unfolding_all rfl); (case k0 => assumption); (case k1 => assumption); (case kE => exact PySem.PassesOwn.leaving); intro n' tn' ws' row' k' h' tk' hI' hn0' hnl' hsg' F' N' hM'))
set_option maxRecDepth 100000 in
set_option maxHeartbeats 8000000 in
theorem signs_tells (w : World) (mean : ExcName → Option Value) (mg mb : Str → Option Value) : SignsTell PySem.Challenge.rw_ki0064_01.row.prog w (Mine.hd.heap_39 w.params) Mine.hd.view_39 (looseW Mine.hd.view_39 []) mean mg mb := by
  k_fill
  w_top off
  unfold SignsTell
  intro dp un gd cn cs a ccd cl outer A₀ base h₀ L m news s r t Q E B F X N T hk hd hu hret
  refine wpAny_call ?_
  k_dflt cell_enter
  clear hd hu
  w_strict k_steps
  · (rename News _ _ _ _ => nE'); (try simp only [List.push_toArray] at nE')
    refine' ksw_end ⟨_, _, _, _, _⟩ (by assumption) nE' ?a ?b ?c ?d ?e ?f
    case a => kst_in
    case b => kst_facts
    case c => kst_all
    case e => exact Mine.sg_step (by assumption) (by assumption) (by assumption) (by assumption)
    case f => exact Mine.sg_meas (by assumption)
    case d => ksw_same
  · refine' hret _ _ _ _ _ _ ?F ?N ?lt ?I ?len ?sg
    case N => assumption
    case I => assumption
    case F => assumption
    case lt => assumption
    case len => omega
    case sg => exact Mine.sg_zero (by assumption) (by assumption) (by assumption)
end Mine

namespace Mine
/-- the first sign of a number's row -/
abbrev fst (r : Int) : Int := sgn (Int.fmod r 781 - 1)
theorem sg_nil {row : List Int} {n0 : Int} (h : Sg n0 0 row) (e : n0 = 0) : row = [] := by
  rcases h.2 with ⟨e1, _⟩ | ⟨e1, _⟩
  · exact e1
  · omega
theorem sg_cons {row : List Int} {n0 : Int} (h : Sg n0 0 row) (e : 0 < n0) : ∃ t, row = sgn (n0 - 1) :: t := by
  rcases h.2 with ⟨_, e2⟩ | ⟨_, e2⟩
  · omega
  · exact e2
section
variable {w : World} {mean : ExcName → Option Value} {mg mb : Str → Option Value} {dp un : Nat} {gd : Option (List Code)} {cn : Str} {cs : Scope} {a : Addr} {ccd : Value} {cl : List (Str × Addr)} {outer : List Env} {A₀ : Around} {base h₀ : Heap} {L : Addr} {m : Str → Option Value} {news : List (Addr × Obj)} {s : Shared} {r : Int} {t : Tok}
  {Q E : Value → Shared → Prop}
theorem signs_use0 (e : Int.fmod r 781 = 0) (B : Below A₀ base outer h₀) (F : Fr h₀ L s.heap m) (X : (Mine.hd.heap_39 w.params).In h₀) (N : News h₀ L s.heap news) (T : Top Mine.hd.view_39 (looseW Mine.hd.view_39 []) mean mg mb h₀) (hk : cs.kind = .function) (hd : dp + 1 < recursionLimit) (hu : un + 8 < cLine)
    (ret : ∀ (l : Addr) (n : Nat) (h' : Heap) (tk' : Nat), Fr h₀ L h' m → News h₀ L h' ((l, W.listOf #[] n) :: news) → (∀ q ∈ news, q.1 < l) → Q (.ref l) { s with heap := h', toks := tk' }) :
    wpAny (model PySem.Challenge.rw_ki0064_01.row.prog w) (ktrTop dp un gd cn cs L a ccd cl outer) (call (.ref 28) [.int r t]) Q E s :=
  signs_tells w mean mg mb dp un gd cn cs a ccd cl outer A₀ base h₀ L m news s r t Q E B F X N T hk hd hu fun l ws row n h' tk' F' N' hl hI _ hs => by
    have er := sg_nil hs e
    subst er
    cases hI
    exact ret l n h' tk' F' N' hl
theorem signs_use1 (e : 0 < Int.fmod r 781) (B : Below A₀ base outer h₀) (F : Fr h₀ L s.heap m) (X : (Mine.hd.heap_39 w.params).In h₀) (N : News h₀ L s.heap news) (T : Top Mine.hd.view_39 (looseW Mine.hd.view_39 []) mean mg mb h₀) (hk : cs.kind = .function) (hd : dp + 1 < recursionLimit) (hu : un + 8 < cLine)
    (ret : ∀ (l : Addr) (ws : List Value) (row : List Int) (n : Nat) (h' : Heap) (tk' : Nat), Fr h₀ L h' m → News h₀ L h' ((l, W.listOf ws.toArray n) :: news) → (∀ q ∈ news, q.1 < l) → IntsAre ws (fst r :: row) → (row.length : Int) ≤ 780 → (∀ x ∈ fst r :: row, 0 ≤ x ∧ x < 256) → Q (.ref l) { s with heap := h', toks := tk' }) :
    wpAny (model PySem.Challenge.rw_ki0064_01.row.prog w) (ktrTop dp un gd cn cs L a ccd cl outer) (call (.ref 28) [.int r t]) Q E s :=
  signs_tells w mean mg mb dp un gd cn cs a ccd cl outer A₀ base h₀ L m news s r t Q E B F X N T hk hd hu fun l ws row n h' tk' F' N' hl hI hlen hs => by
    obtain ⟨tl, er⟩ := sg_cons hs e
    subst er
    have hlen' : ((tl.length + 1 : Nat) : Int) ≤ 780 := hlen
    exact ret l ws tl n h' tk' F' N' hl hI (by omega) hs.1
end
theorem signs_split {M : Model} {A : Around} {E : Value → Shared → Prop} {s : Shared} {r : Int} {t : Tok} {Q : Value → Shared → Prop} (h0 : Int.fmod r 781 = 0 → wpAny M A (call (.ref 28) [.int r t]) Q E s) (h1 : 0 < Int.fmod r 781 → wpAny M A (call (.ref 28) [.int r t]) Q E s) :
    wpAny M A (call (.ref 28) [.int r t]) Q E s := by
  have h : 0 ≤ Int.fmod r 781 := Int.fmod_nonneg_of_pos r (by decide)
  by_cases e : Int.fmod r 781 = 0
  · exact h0 e
  · exact h1 (by omega)
/-- bytes and text of a row -/
def BsOf (c : Int) (tl : List Int) : Array UInt8 := ((c :: tl).map fun n => n.toNat.toUInt8).toArray
def TxOf (c : Int) (tl : List Int) : Str := ⟨((c :: tl).map Int.toNat).toArray⟩
section
variable {prog : Program} {w : World} {A : Around} {E : Value → Shared → Prop} {s : Shared} {h₀ : Heap} {L : Addr} {m : Str → Option Value} {news : List (Addr × Obj)} {t u : Tok}
theorem bytes_row {l : Addr} {ws : List Value} {c : Int} {row : List Int} {n : Nat} {Q : Value → Shared → Prop} (F : Fr h₀ L s.heap m) (N : News h₀ L s.heap news) (hm : (l, W.listOf ws.toArray n) ∈ news) (hi : IntsAre ws (c :: row)) (hlen : (row.length : Int) ≤ 780) (hr : ∀ x ∈ c :: row, 0 ≤ x ∧ x < 256) (hh : A.handled = none)
    (h : ∀ h' t k, Fr h₀ L h' m → News h₀ L h' news → 0 ≤ c → c < 256 → Q (.bytes (BsOf c row) t) { s with heap := h', toks := k }) : wpAny (model prog w) A (call (.type "bytes") [.ref l]) Q E s :=
  bytes_K F N (News.isList N hm) hi hr (by rw [hi.length, List.length_cons, sizeLine_eq]; omega) hh fun h' t k F' N' _ => h h' t k F' N' (hr c (.head _)).1 (hr c (.head _)).2
theorem bytes_none {l : Addr} {n : Nat} {Q : Value → Shared → Prop} (F : Fr h₀ L s.heap m) (N : News h₀ L s.heap news) (hm : (l, W.listOf #[] n) ∈ news) (hh : A.handled = none)
    (h : ∀ h' t k, Fr h₀ L h' m → News h₀ L h' news → Q (.bytes #[] t) { s with heap := h', toks := k }) : wpAny (model prog w) A (call (.type "bytes") [.ref l]) Q E s :=
  bytes_K (vs := []) (ns := []) F N (News.isList N hm) IntsAre.nil (fun _ h => nomatch h) (Nat.zero_le _) hh fun h' t k F' N' _ => h h' t k F' N'
theorem truthy_none {Q : Bool → Shared → Prop} (h : Q false { s with toks := s.toks + 1 + 1 }) : wpAny (model prog w) A (truthy (.bytes #[] t)) Q E s :=
  truthy_bytes (by decide) h
theorem bs_size (c : Int) (tl : List Int) : (BsOf c tl).size = tl.length + 1 := by simp [BsOf]
theorem truthy_row {c : Int} {row : List Int} {Q : Bool → Shared → Prop} (hlen : (row.length : Int) ≤ 780) (h : Q true { s with toks := s.toks + 1 + 1 }) : wpAny (model prog w) A (truthy (.bytes (BsOf c row) t)) Q E s :=
  truthy_bytes (by rw [bs_size]; omega) (by
    have e : (((BsOf c row).size : Int) != 0) = true := by
      rw [bs_size, bne_iff_ne]; omega
    rw [e]; exact h)
theorem item_row {c : Int} {row : List Int} {ui : Tok} {value slice : Expr} {Q : Value → Shared → Prop} (hlen : (row.length : Int) ≤ 780) (h0 : 0 ≤ c) (h1 : c < 256) (h : Q (.int c s.toks) { s with toks := s.toks + 1 })
    (hs : subscripted slice false (.bytes (BsOf c row) t) (.int 0 ui) = operate [.bytes (BsOf c row) t, .int 0 ui] (getItem (.bytes (BsOf c row) t) (.int 0 ui)))
    (ht : ∀ r, letTemporaryGo value (.bytes (BsOf c row) t) r = pure ()) : wpAny (model prog w) A (subscriptTail value slice (.bytes (BsOf c row) t) (.int 0 ui)) Q E s :=
  by
  have hf : ((c :: row).map fun n : Int => n.toNat.toUInt8).length ≤ 1099511627776 := by rw [List.length_map, List.length_cons]; omega
  have hl : (0 : Int) < ((((c :: row).map fun n : Int => n.toNat.toUInt8).length : Nat) : Int) := by rw [List.length_map, List.length_cons]; omega
  have hb : (((((c :: row).map fun n : Int => n.toNat.toUInt8).getD (0 : Int).toNat 0).toNat : Nat) : Int) = c := byte_back h0 h1
  have eb : BsOf c row = ((c :: row).map fun n : Int => n.toNat.toUInt8).toArray := rfl
  rw [eb] at hs ht ⊢
  generalize ((c :: row).map fun n : Int => n.toNat.toUInt8) = x at *
  exact bytes_item_K hf (Int.le_refl 0) hl hb h hs ht
theorem ne_bool_same {b : Bool} {Q : Value → Shared → Prop} (h : Q (.bool false) s) : wpAny (model prog w) A (compareOp .NotEq (.bool b) (.bool b)) Q E s :=
  PyProof.Rows.ne_bool (by rw [bne_self_eq_false]; exact h)
end
end Mine

namespace Mine
theorem ite_any_t {k : Int} {p q : Prop} (h2 : 2 ≤ k) (h3 : k ≤ 3) (hp : p) : if ([2, 3].any fun x => x == k) = true then p else q := by
  have e : k = 2 ∨ k = 3 := by omega
  rw [if_pos (by rcases e with e | e <;> subst e <;> decide)]
  exact hp
theorem ite_any_f {k : Int} {p q : Prop} (h2 : k ≠ 2) (h3 : k ≠ 3) (hq : q) : if ([2, 3].any fun x => x == k) = true then p else q := by
  rw [if_neg (by simp; omega)]
  exact hq
theorem due_eq (c : Int) (row : List Int) : (c == 0) = decide (List.take 1 (c :: row) = [0]) := by
  by_cases h : c = 0
  · subst h; simp
  · rw [decide_eq_false (by simpa using h)]
    simpa using h
section
variable {prog : Program} {w : World} {A : Around} {E : Value → Shared → Prop} {s s₁ : Shared} {h₀ : Heap} {L : Addr} {m : Str → Option Value} {news : List (Addr × Obj)} {t u : Tok}
theorem ne_bool_of {a b : Bool} {Q : Value → Shared → Prop} (e : a = b) (h : Q (.bool false) s) : wpAny (model prog w) A (compareOp .NotEq (.bool a) (.bool b)) Q E s := by
  subst e
  exact ne_bool_same h
theorem comp_row {env : Env} {elt : Expr} {x : Str} {scope : Scope} {cl : List (Str × Addr)} {Fin : Shared → List Value → List (Addr × Obj) → Prop} {l : Addr} {ws : List Value} {c : Int} {row : List Int} {n : Nat}
    (F : Fr h₀ L s₁.heap m) (N : News h₀ L s₁.heap news) (hm : (l, W.listOf ws.toArray n) ∈ news) (hi : IntsAre ws (c :: row)) (hlen : (row.length : Int) ≤ 780) (hr : ∀ x ∈ c :: row, 0 ≤ x ∧ x < 256) (hh : A.handled = none)
    (turn : ∀ k t I oI C oC D m₂ ys h tk (E' : Value → Shared → Prop), 0 ≤ k → k < 256 → LCg.NsObj oC m₂ → m₂ x = some (.int k t) → Fr h₀ L h m → News h₀ L h ((I, oI) :: (C, oC) :: (D, LCg.lst ys) :: news) → LCg.Off3 I C D news → ((@Ne Nat I C) ∧ (@Ne Nat I D) ∧ (@Ne Nat C D)) → KPfMark →
      wpAny (model prog w) A (eval elt (compEnvC scope cl C env)) (LCg.CompEnd h₀ L m { s₁ with heap := h, toks := tk } I oI C oC D (LCg.lst ys) (LCg.SrcAt h₀ l ws.toArray) (fun y news' => KCtEl news ⟨#[k.toNat]⟩ y news')) E' { s₁ with heap := h, toks := tk })
    (fin : ∀ g ys, CarriedAll ys ((c :: row).map fun k => PyData.str ⟨#[k.toNat]⟩) → 0 ≤ c → c < 256 → Fin { s₁ with heap := g } ys news) :
    LCg.CompSrc prog w A h₀ L m env elt x scope cl Fin (.ref l) s₁ :=
  LCg.CompSrc.ledger hh F N hm (by rw [List.size_toArray, hi.length, List.length_cons, sizeLine_eq]; omega) fun g =>
    kct_list (fun k => ⟨#[k.toNat]⟩) hi (fun k t I oI C oC D m₂ ys h tk E' hk hC hx F' N' off ne mk => turn k t I oI C oC D m₂ ys h tk E' (hr k hk).1 (hr k hk).2 hC hx F' N' off ne mk) (fun ys hc _ => fin g ys hc (hr c (.head _)).1 (hr c (.head _)).2)
theorem comp_end {I C D l : Addr} {oI oC : Obj} {ys ws : List Value} {n : Nat} {x : Str} {h : Heap} {tk : Nat} (F : Fr h₀ L h m) (N : News h₀ L h ((I, oI) :: (C, oC) :: (D, LCg.lst ys) :: news)) (off : LCg.Off3 I C D news) (hm : (l, W.listOf ws.toArray n) ∈ news) :
    LCg.CompEnd h₀ L m s₁ I oI C oC D (LCg.lst ys) (LCg.SrcAt h₀ l ws.toArray) (fun y news' => KCtEl news x y news') (.str x t) { s₁ with heap := h, toks := tk } :=
  ⟨h, tk, news, rfl, F, N, off, .inr ⟨_, hm, rfl, _, rfl⟩, rfl, t, rfl⟩
theorem join_text (c : Int) (row : List Int) : Txt.join (Str.ofString "") ((c :: row).map fun k => (⟨#[k.toNat]⟩ : Str)) = TxOf c row := by
  show Builtin.Str.glued (Str.ofString "") _ = _
  rw [StrLaws.glued_eq_join]
  have e : Str.ofString "" = (⟨#[]⟩ : Str) := by decide
  have e2 : ((c :: row).map fun k => (⟨#[k.toNat]⟩ : Str)) = ((c :: row).map Int.toNat).map fun k => (⟨#[k]⟩ : Str) := by rw [List.map_map]; rfl
  rw [e, e2, join_ones]
  rfl
theorem join_row {D : Addr} {ys : List Value} {c : Int} {row : List Int} {Q : Value → Shared → Prop} (hl : s.heap.IsList D ys.toArray) (hc : CarriedAll ys ((c :: row).map fun k => PyData.str ⟨#[k.toNat]⟩)) (hlen : (row.length : Int) ≤ 780)
    (h : ∀ t' k, Q (.str (TxOf c row) t') { s with toks := k }) : wpAny (model prog w) A (call (.builtin "str.join") [.str (Str.ofString "") t, .ref D]) Q E s :=
  KT.join_B 1 hl hc (fun _ _ => Nat.le_refl 1) (by rw [List.length_cons]; omega) (by decide) fun t' k => by
    have e := join_text c row
    generalize Txt.join (Str.ofString "") ((c :: row).map fun k => (⟨#[k.toNat]⟩ : Str)) = z at *
    subst e
    exact h t' k
theorem tx_len (c : Int) (row : List Int) : (TxOf c row).length = row.length + 1 := by simp [TxOf, Str.length]
theorem truthy_tx {c : Int} {row : List Int} {Q : Bool → Shared → Prop} (hlen : (row.length : Int) ≤ 780) (h : Q true { s with toks := s.toks + 1 + 1 }) : wpAny (model prog w) A (truthy (.str (TxOf c row) t)) Q E s :=
  P.truthy_str (by rw [tx_len]; omega) (by
    have e : (((TxOf c row).length : Int) != 0) = true := by
      rw [tx_len, bne_iff_ne]; omega
    rw [e]; exact h)
theorem item_tx {c : Int} {row : List Int} {ui : Tok} {value slice : Expr} {Q : Value → Shared → Prop} (hlen : (row.length : Int) ≤ 780) (h : Q (.str ⟨#[c.toNat]⟩ s.toks) { s with toks := s.toks + 1 })
    (hs : subscripted slice false (.str (TxOf c row) t) (.int 0 ui) = operate [.str (TxOf c row) t, .int 0 ui] (getItem (.str (TxOf c row) t) (.int 0 ui)))
    (ht : ∀ r, letTemporaryGo value (.str (TxOf c row) t) r = pure ()) : wpAny (model prog w) A (subscriptTail value slice (.str (TxOf c row) t) (.int 0 ui)) Q E s := by
  have hl := tx_len c row
  refine item_str (by decide) (by rw [hl]; omega) (by rw [hl]; omega) (fun _ => ?_) hs ht
  have e : Txt.item (TxOf c row) 0 = ⟨#[c.toNat]⟩ := by
    rw [item_meets ⟨Int.le_refl 0, by rw [hl]; omega⟩]
    rfl
  rw [e]
  exact h
theorem eq_nul {c : Int} {Q : Value → Shared → Prop} (h0 : 0 ≤ c) (h : Q (.bool (c == 0)) s) : wpAny (model prog w) A (compareOp .Eq (.str ⟨#[c.toNat]⟩ t) (.str (Str.ofString "\u0000") u)) Q E s := by
  have e : ((⟨#[c.toNat]⟩ : Str) == Str.ofString "\u0000") = (c == 0) := by
    have e0 : Str.ofString "\u0000" = (⟨#[0]⟩ : Str) := by decide
    rw [e0]
    by_cases hc : c = 0
    · subst hc; rfl
    · have h1 : (c == 0) = false := by simpa using hc
      rw [h1, beq_eq_false_iff_ne]
      intro q
      have q1 : #[c.toNat] = #[0] := congrArg Str.cps q
      have q2 : c.toNat = 0 := by simpa using q1
      omega
  exact PyProof.Rows.eq_str (by rw [e]; exact h)
end
end Mine
local macro_rules | `(tactic| walk_at "exec For Name BinOp cons nil") => `(tactic| (k_here; (rename Fr _ _ _ _ => lF'); (with_unfolding_all refine' For_invVF lF' ?k1 ?k2 ?_; (case k1 => exact rfl); (case k2 => exact rfl); k_whole)))
local macro_rules | `(tactic| walk_at "storeName") => `(tactic| (k_here; (with_reducible show wpAny _ _ (storeName _ _ (Value.int (Int.fmod _ 8) _)) _ _ _); refine Mine.store_kind4 ?h6 ?h7 ?hb ?ht; (try (case' hb => intro kk hk2 hk3)); (try (case' ht => intro kk hk0 hk6 hk2 hk3))))
local macro_rules | `(tactic| walk_at "storeName") => `(tactic| (k_here; (with_reducible show wpAny _ _ (storeName _ _ (Value.int (Int.fdiv (Int.fmod _ _) 8) _)) _ _ _); refine Mine.store_rest' ?_; intro rr hr0 hr1 hrL))
local macro_rules | `(tactic| walk_at "compareOp Eq str str") => `(tactic| (k_here; (with_reducible show wpAny _ _ (compareOp _ (Value.str (Str.ofString (toString _)) _) (Value.str (Str.ofString "0") _)) _ _ _); refine Mine.eq_zero_text (by assumption) ?_))
local macro_rules | `(tactic| walk_at "compareOp Eq str str") => `(tactic| (k_here; (with_reducible show wpAny _ _ (compareOp _ (Value.str (Str.ofString "0") _) (Value.str (Str.ofString "0") _)) _ _ _); refine Mine.eq_zero_zero ?_))
local macro_rules | `(tactic| walk_at "compareOp Eq str str") => `(tactic| (k_here; (with_reducible show wpAny _ _ (compareOp _ (Value.str (Str.ofString _ ++ _ ++ Str.ofString _) _) (Value.str (Str.ofString "0") _)) _ _ _); refine Mine.eq_head_ne (Mine.assoc3 _ _ _) (by decide) ?_))
local macro_rules | `(tactic| walk_at "compareOp NotEq str str") => `(tactic| (k_here; refine Mine.ne_same (by with_reducible rfl) ?_))
local macro_rules | `(tactic| walk_at "joinParts") => `(tactic| (k_here; first | (refine Mine.join_msg (by omega) rfl ?_) | (refine Mine.join_msgE (by omega) rfl ?_) | (refine Mine.join_msgE (Nat.le_trans (Mine.wrap_fits (by omega)) (by decide)) rfl ?_)))
local macro_rules | `(tactic| walk_at "binaryOp Mod int int") => `(tactic| (k_here; (with_reducible show wpAny _ _ (binaryOp _ _ (Value.int 7 _)) _ _ _); first | (refine Mine.mod7_known (by assumption) ?_) | (refine Mine.mod7_cases ?_ ?_ ?_ ?_ ?_ ?_ ?_ <;> intro hm7)))
local macro_rules | `(tactic| walk_at "binaryOp Mod int int") => `(tactic| (k_here; (with_reducible show wpAny _ _ (binaryOp _ _ (Value.int 3 _)) _ _ _); refine Mine.mod3_named ?_; intro hm30 hm31 hm3L))
local macro_rules | `(tactic| walk_at "binaryOp Add str str") => `(tactic| (k_here; (with_reducible show wpAny _ _ (binaryOp Operator.Add (Value.str (Str.ofString _) _) (Value.str _ _)) _ _ _); (refine' Mine.add_L ?a1 ?a2 ?_; (case a1 => with_unfolding_all exact Nat.le_of_ble_eq_true rfl); (case a2 => first | omega | with_unfolding_all exact Nat.le_of_ble_eq_true rfl)); intro _ _ _))
local macro_rules | `(tactic| walk_at "binaryOp Add str str") => `(tactic| (k_here; (with_reducible show wpAny _ _ (binaryOp Operator.Add (Value.str (_ ++ _) _) (Value.str (Str.ofString _) _)) _ _ _); (refine' Mine.add_R ?a1 ?a2 ?_; (case a2 => with_unfolding_all exact Nat.le_of_ble_eq_true rfl); (case a1 => omega)); intro _ _ _))
local macro_rules | `(tactic| walk_at "pyReprObj ref") => `(tactic| (k_here; (refine' Mine.repr_pair ?kF ?kN ?km ?k0 ?k1 ?kg ?ku ?_; (case kF => k_asm); (case kN => k_asm); (case km => k_mem); (case k0 => assumption); (case k1 => assumption); (case kg => with_unfolding_all rfl); (case ku => with_unfolding_all exact Nat.le_of_ble_eq_true rfl)); intro h' t' tk' F' N' hpL))
local macro_rules | `(tactic| walk_at "pyReprObj bool") => `(tactic| (k_here; refine Mine.repr_true ?_; intro htL))
local macro_rules | `(tactic| walk_at "compareOp Eq str str") => `(tactic| (k_here; (with_reducible show wpAny _ _ (compareOp _ (Value.str (Str.ofString "True") _) (Value.str (Str.ofString "0") _)) _ _ _); refine Mine.eq_True_zero ?_))
local macro_rules | `(tactic| walk_at "call builtin:isinstance") => `(tactic| (k_here; (with_reducible show wpAny _ _ (call _ [Value.ref _, Value.type "bytes"]) _ _ _); k_dflt (first
  | (refine' Mine.isi_list_bytes ?kN ?km ?_; (case kN => k_asm); (case km => k_mem); k_whole)
  | (refine' Mine.isi_tup_bytes ?kN ?km ?_; (case kN => k_asm); (case km => k_mem); k_whole))))
local macro_rules | `(tactic| walk_at "call builtin:isinstance") => `(tactic| (k_here; (with_reducible show wpAny _ _ (call _ [Value.ref _, Value.type "str"]) _ _ _); k_dflt (first
  | (refine' Mine.isi_list_str ?kN ?km ?_; (case kN => k_asm); (case km => k_mem); k_whole)
  | (refine' Mine.isi_tup_str ?kN ?km ?_; (case kN => k_asm); (case km => k_mem); k_whole))))
local macro_rules | `(tactic| walk_at "binaryOp Mod int int") => `(tactic| (k_here; (with_reducible show wpAny _ _ (binaryOp _ _ (Value.int 781 _)) _ _ _); refine Mine.mod781_named ?_; intro hm70 hm71))
local macro_rules | `(tactic| walk_at "ite") => `(tactic| (k_here; (with_reducible show if (_ == (_ : Int)) = true then _ else _); first | (refine Mine.ite_ieq_ne (by omega) ?_) | (refine Mine.ite_ieq_eq (by omega) ?_)))
local macro_rules | `(tactic| walk_at "call ref") => `(tactic| (k_here; (with_reducible show wpAny _ _ (call (Value.ref 28) [Value.int _ _]) _ _ _); (fail_if_success (with_reducible rename (Int.fmod _ 781 = 0) => e9)); (fail_if_success (with_reducible rename (0 < Int.fmod _ 781) => e9)); refine Mine.signs_split ?_ ?_ <;> intro hn0))
local macro_rules | `(tactic| walk_at "call ref") => `(tactic| (k_here; (with_reducible show wpAny _ _ (call (Value.ref 28) [Value.int _ _]) _ _ _); k_dflt (refine' Mine.signs_use0 ?ke ?k1 ?k2 ?k3 ?k4 ?k5 ?kK ?kd ?ku ?_; (case ke => assumption); (case k1 => k_asm); (case k2 => k_asm); (case k3 => k_asm); (case k4 => k_asm); (case k5 => k_asm); (case kK => first | exact rfl | assumption); (case kd => ktr_room); (case ku => ktr_units)); intro l9 n9 h9 tk9 F9 N9 hl9; (try k_lt hl9); (try dsimp only); (try k_fold)))
local macro_rules | `(tactic| walk_at "call ref") => `(tactic| (k_here; (with_reducible show wpAny _ _ (call (Value.ref 28) [Value.int _ _]) _ _ _); k_dflt (refine' Mine.signs_use1 ?ke ?k1 ?k2 ?k3 ?k4 ?k5 ?kK ?kd ?ku ?_; (case ke => assumption); (case k1 => k_asm); (case k2 => k_asm); (case k3 => k_asm); (case k4 => k_asm); (case k5 => k_asm); (case kK => first | exact rfl | assumption); (case kd => ktr_room); (case ku => ktr_units)); intro l9 ws9 row9 n9 h9 tk9 F9 N9 hl9 hI9 hlen9 hr9; (try k_lt hl9); (try dsimp only); (try k_fold)))
local macro_rules | `(tactic| walk_at "call type:bytes") => `(tactic| (k_here; k_dflt (refine' Mine.bytes_none ?kF ?kN ?km ?kh ?_; (case kN => k_asm); (case kF => k_asm); (case km => k_mem); (case kh => with_unfolding_all rfl)); intro h' t' k' F' N'))
local macro_rules | `(tactic| walk_at "call type:bytes") => `(tactic| (k_here; k_dflt (refine' Mine.bytes_row ?kF ?kN ?km ?ki ?kl ?kr ?kh ?_; (case kN => k_asm); (case kF => k_asm); (case km => k_mem); (case ki => assumption); (case kl => assumption); (case kr => assumption); (case kh => with_unfolding_all rfl)); intro h' t' k' F' N' hc0 hc1))
local macro_rules | `(tactic| walk_at "truthy bytes") => `(tactic| (k_here; first | refine Mine.truthy_row (by assumption) ?_ | refine Mine.truthy_none ?_))
local macro_rules | `(tactic| walk_at "subscriptTail") => `(tactic| (k_here; (with_reducible show wpAny _ _ (subscriptTail _ _ (Value.bytes (Mine.BsOf _ _) _) (Value.int 0 _)) _ _ _); refine' Mine.item_row ?k1 ?k2 ?k3 ?_ ?k4 ?k5; (case k1 => assumption); (case k2 => assumption); (case k3 => assumption); (case k4 => with_unfolding_all rfl); (case k5 => (intro _; with_unfolding_all rfl))))
local macro_rules | `(tactic| walk_at "compareOp NotEq bool bool") => `(tactic| (k_here; first | refine Mine.ne_bool_same ?_ | refine Mine.ne_bool_of (Mine.due_eq _ _) ?_ | refine Mine.ne_bool_of (by with_unfolding_all rfl) ?_))
local macro_rules | `(tactic| walk_at "ite") => `(tactic| (k_here; first | (refine Mine.ite_any_t (by assumption) (by assumption) ?_) | (refine Mine.ite_any_f (by assumption) (by assumption) ?_)))
local macro_rules | `(tactic| walk_at "CompSrc") => `(tactic| (k_here; k_dflt (refine' Mine.comp_row ?kF ?kN ?km ?ki ?kl ?kr ?kh ?kt ?kf; (case kN => k_asm); (case kF => k_asm); (case km => k_mem); (case ki => assumption); (case kl => assumption); (case kr => assumption); (case kh => with_unfolding_all rfl)); (case' kt => (intro k' t' I' oI' C' oC' D' m' ys' h' tk' E' hk0' hk1' hC' hx' F' N' off' ne' hMark')); (case' kf => (intro g' ys' ktC' hc0' hc1'))))
local macro_rules | `(tactic| walk_at "CompEnd") => `(tactic| (k_here; k_dflt (refine' Mine.comp_end ?kF ?kN ?ko ?km; (case kN => k_asm); (case kF => k_asm); (case ko => assumption); (case km => k_mem))))
local macro_rules | `(tactic| walk_at "call builtin:str.join") => `(tactic| (k_here; (with_reducible rename CarriedAll _ (List.map _ _) => ktC); refine Mine.join_row (by first | assumption | is_list | exact News.isList (by k_asm) (by k_mem)) ktC (by assumption) ?_; intro _ _))
local macro_rules | `(tactic| walk_at "truthy str") => `(tactic| (k_here; refine Mine.truthy_tx (by assumption) ?_))
local macro_rules | `(tactic| walk_at "subscriptTail") => `(tactic| (k_here; (with_reducible show wpAny _ _ (subscriptTail _ _ (Value.str (Mine.TxOf _ _) _) (Value.int 0 _)) _ _ _); refine' Mine.item_tx ?k1 ?_ ?k4 ?k5; (case k1 => assumption); (case k4 => with_unfolding_all rfl); (case k5 => (intro _; with_unfolding_all rfl))))
local macro_rules | `(tactic| walk_at "compareOp Eq str str") => `(tactic| (k_here; (with_reducible show wpAny _ _ (compareOp _ (Value.str (Str.mk #[Int.toNat _]) _) _) _ _ _); refine Mine.eq_nul (by assumption) ?_))
set_option maxRecDepth 100000 in
set_option maxHeartbeats 0 in
theorem PySem.Challenge.cw_ki0064_01_holds : PySem.Challenge.rw_ki0064_01.Holds := by
  refine Mine.hd ?_
  k_with "pyIter ref" => (k_search (fun _ => True); rotate_left)
  w_strict k_go
