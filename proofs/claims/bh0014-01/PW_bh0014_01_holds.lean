import PyProof.Rows.All
import Wide.All
import OpenK.AllK
import Wide.FinOn
import PySem.Challenge.RW_bh0014_01
open PySem PySem.W PyProof.Rows
set_option Elab.async false
set_option maxRecDepth 100000
set_option maxHeartbeats 8000000
namespace Mine
open_top hd for PySem.Challenge.rw_bh0014_01
end Mine
open PySem PySem.W PyProof.Rows
set_option Elab.async false
set_option maxRecDepth 100000
namespace Mine
noncomputable abbrev LO : List Str := looseW hd.view_39
    [Str.ofString "_valid_date", Str.ofString "leap_armenian", Str.ofString "to_jd_armenian",
      Str.ofString "from_jd_armenian", Str.ofString "month_length_armenian", Str.ofString "monthcalendar_armenian",
      Str.ofString "to_jd_coptic", Str.ofString "from_jd_coptic", Str.ofString "month_length_coptic",
      Str.ofString "monthcalendar_coptic", Str.ofString "legal_date_gregorian", Str.ofString "to_jd_gregorian",
      Str.ofString "from_jd_gregorian", Str.ofString "month_length_gregorian", Str.ofString "monthcalendar_gregorian",
      Str.ofString "to_jd_indian_civil", Str.ofString "from_jd_indian_civil", Str.ofString "month_length_indian_civil",
      Str.ofString "monthcalendar_indian_civil", Str.ofString "leap_islamic", Str.ofString "to_jd_islamic",
      Str.ofString "from_jd_islamic", Str.ofString "month_length_islamic", Str.ofString "monthcalendar_islamic",
      Str.ofString "from_jd_iso", Str.ofString "leap_julian", Str.ofString "month_length_julian",
      Str.ofString "legal_date_julian", Str.ofString "from_jd_julian", Str.ofString "to_jd_julian",
      Str.ofString "monthcalendar_julian"]
abbrev CL (w : World) (mean : ExcName → Option Value) (mg mb : Str → Option Value) (k : Nat) (f : Addr) (news : List (Addr × Obj)) (pre : Prop) (vs : List Value) (R : Tok → Value) : Prop :=
  ∀ (dp un : Nat) (gd : Option (List Code)) (cn : Str) (cs : Scope) (a : Addr) (ccd : Value) (cl : List (Str × Addr)) (outer : List Env) (A₀ : Around) (base h₀ : Heap) (L : Addr) (m : Str → Option Value) (s : Shared) (Q E : Value → Shared → Prop),
    Below A₀ base outer h₀ → Fr h₀ L s.heap m → (hd.heap_39 w.params).In h₀ → News h₀ L s.heap news → Top hd.view_39 LO mean mg mb h₀ → cs.kind = .function →
    (pre → dp + k < recursionLimit → un + 8 * k < cLine → CbRet h₀ L m news s Q R →
      wpAny (model PySem.Challenge.rw_bh0014_01.row.prog w) (ktrTop dp un gd cn cs L a ccd cl outer) (call (.ref f) vs) Q E s)
abbrev tup3 (a b c : Value) (n : Nat) : Obj := { cls := .type "tuple", data := .seq #[a, b, c] n }
abbrev CT (w : World) (mean : ExcName → Option Value) (mg mb : Str → Option Value) (k : Nat) (f : Addr) (news : List (Addr × Obj)) (pre : Prop) (vs : List Value) (r1 r2 r3 : Int) : Prop :=
  ∀ (dp un : Nat) (gd : Option (List Code)) (cn : Str) (cs : Scope) (a : Addr) (ccd : Value) (cl : List (Str × Addr)) (outer : List Env) (A₀ : Around) (base h₀ : Heap) (L : Addr) (m : Str → Option Value) (s : Shared) (Q E : Value → Shared → Prop),
    Below A₀ base outer h₀ → Fr h₀ L s.heap m → (hd.heap_39 w.params).In h₀ → News h₀ L s.heap news → Top hd.view_39 LO mean mg mb h₀ → cs.kind = .function →
    (pre → dp + k < recursionLimit → un + 8 * k < cLine →
      (∀ (D : Addr) (t1 t2 t3 : Tok) (n : Nat) (h' : Heap) (tk' : Nat), Fr h₀ L h' m → News h₀ L h' ((D, tup3 (.int r1 t1) (.int r2 t2) (.int r3 t3) n) :: news) → AllLt D news → Q (.ref D) { s with heap := h', toks := tk' }) →
      wpAny (model PySem.Challenge.rw_bh0014_01.row.prog w) (ktrTop dp un gd cn cs L a ccd cl outer) (call (.ref f) vs) Q E s)
theorem ct_ret {h₀ : Heap} {L : Addr} {m : Str → Option Value} {news : List (Addr × Obj)} {s : Shared} {Q : Value → Shared → Prop} {r1 r2 r3 a b c : Int} {D : Addr} {t1 t2 t3 : Tok} {n : Nat} {h' : Heap} {tk' : Nat}
    (h : ∀ (D : Addr) (t1 t2 t3 : Tok) (n : Nat) (h' : Heap) (tk' : Nat), Fr h₀ L h' m → News h₀ L h' ((D, tup3 (.int r1 t1) (.int r2 t2) (.int r3 t3) n) :: news) → AllLt D news → Q (.ref D) { s with heap := h', toks := tk' })
    (F : Fr h₀ L h' m) (N : News h₀ L h' ((D, tup3 (.int a t1) (.int b t2) (.int c t3) n) :: news)) (l : AllLt D news) (e1 : a = r1) (e2 : b = r2) (e3 : c = r3) : Q (.ref D) { s with heap := h', toks := tk' } := by
  subst e1; subst e2; subst e3
  exact h D t1 t2 t3 n h' tk' F N l
theorem ct_retM {h₀ : Heap} {L : Addr} {m : Str → Option Value} {news nws : List (Addr × Obj)} {s : Shared} {Q : Value → Shared → Prop} {r1 r2 r3 a b c : Int} {D : Addr} {t1 t2 t3 : Tok} {n : Nat} {h' : Heap} {tk' : Nat}
    (h : ∀ (D : Addr) (t1 t2 t3 : Tok) (n : Nat) (h' : Heap) (tk' : Nat), Fr h₀ L h' m → News h₀ L h' ((D, tup3 (.int r1 t1) (.int r2 t2) (.int r3 t3) n) :: news) → AllLt D news → Q (.ref D) { s with heap := h', toks := tk' })
    (F : Fr h₀ L h' m) (N : News h₀ L h' nws) (hm : (D, tup3 (.int a t1) (.int b t2) (.int c t3) n) ∈ nws) (hs : ∀ p ∈ news, p ∈ nws) (l : AllLt D news) (e1 : a = r1) (e2 : b = r2) (e3 : c = r3) : Q (.ref D) { s with heap := h', toks := tk' } := by
  subst e1; subst e2; subst e3
  refine h D t1 t2 t3 n h' tk' F (fun p hp => ?_) l
  rcases List.mem_cons.mp hp with rfl | hp
  · exact N _ hm
  · exact N p (hs p hp)
abbrev tup2 (a b : Value) (n : Nat) : Obj := { cls := .type "tuple", data := .seq #[a, b] n }
abbrev CT2 (w : World) (mean : ExcName → Option Value) (mg mb : Str → Option Value) (k : Nat) (f : Addr) (news : List (Addr × Obj)) (pre : Prop) (vs : List Value) (r2 : Int) : Prop :=
  ∀ (dp un : Nat) (gd : Option (List Code)) (cn : Str) (cs : Scope) (a : Addr) (ccd : Value) (cl : List (Str × Addr)) (outer : List Env) (A₀ : Around) (base h₀ : Heap) (L : Addr) (m : Str → Option Value) (s : Shared) (Q E : Value → Shared → Prop),
    Below A₀ base outer h₀ → Fr h₀ L s.heap m → (hd.heap_39 w.params).In h₀ → News h₀ L s.heap news → Top hd.view_39 LO mean mg mb h₀ → cs.kind = .function →
    (pre → dp + k < recursionLimit → un + 8 * k < cLine →
      (∀ (D : Addr) (x : Int) (t1 t2 : Tok) (n : Nat) (h' : Heap) (tk' : Nat), Fr h₀ L h' m → News h₀ L h' ((D, tup2 (.int x t1) (.int r2 t2) n) :: news) → AllLt D news → Q (.ref D) { s with heap := h', toks := tk' }) →
      wpAny (model PySem.Challenge.rw_bh0014_01.row.prog w) (ktrTop dp un gd cn cs L a ccd cl outer) (call (.ref f) vs) Q E s)
theorem ct2_ret {h₀ : Heap} {L : Addr} {m : Str → Option Value} {news nws : List (Addr × Obj)} {s : Shared} {Q : Value → Shared → Prop} {r2 x b : Int} {D : Addr} {t1 t2 : Tok} {n : Nat} {h' : Heap} {tk' : Nat}
    (h : ∀ (D : Addr) (x : Int) (t1 t2 : Tok) (n : Nat) (h' : Heap) (tk' : Nat), Fr h₀ L h' m → News h₀ L h' ((D, tup2 (.int x t1) (.int r2 t2) n) :: news) → AllLt D news → Q (.ref D) { s with heap := h', toks := tk' })
    (F : Fr h₀ L h' m) (N : News h₀ L h' nws) (hm : (D, tup2 (.int x t1) (.int b t2) n) ∈ nws) (hs : ∀ p ∈ news, p ∈ nws) (l : AllLt D news) (e : b = r2) : Q (.ref D) { s with heap := h', toks := tk' } := by
  subst e
  refine h D x t1 t2 n h' tk' F (fun p hp => ?_) l
  rcases List.mem_cons.mp hp with rfl | hp
  · exact N _ hm
  · exact N p (hs p hp)
abbrev CT3 (w : World) (mean : ExcName → Option Value) (mg mb : Str → Option Value) (k : Nat) (f : Addr) (news : List (Addr × Obj)) (pre : Prop) (vs : List Value) (r3 : Int) : Prop :=
  ∀ (dp un : Nat) (gd : Option (List Code)) (cn : Str) (cs : Scope) (a : Addr) (ccd : Value) (cl : List (Str × Addr)) (outer : List Env) (A₀ : Around) (base h₀ : Heap) (L : Addr) (m : Str → Option Value) (s : Shared) (Q E : Value → Shared → Prop),
    Below A₀ base outer h₀ → Fr h₀ L s.heap m → (hd.heap_39 w.params).In h₀ → News h₀ L s.heap news → Top hd.view_39 LO mean mg mb h₀ → cs.kind = .function →
    (pre → dp + k < recursionLimit → un + 8 * k < cLine →
      (∀ (D : Addr) (x y : Int) (t1 t2 t3 : Tok) (n : Nat) (h' : Heap) (tk' : Nat), Fr h₀ L h' m → News h₀ L h' ((D, tup3 (.int x t1) (.int y t2) (.int r3 t3) n) :: news) → AllLt D news → Q (.ref D) { s with heap := h', toks := tk' }) →
      wpAny (model PySem.Challenge.rw_bh0014_01.row.prog w) (ktrTop dp un gd cn cs L a ccd cl outer) (call (.ref f) vs) Q E s)
theorem ct3_ret {h₀ : Heap} {L : Addr} {m : Str → Option Value} {news nws : List (Addr × Obj)} {s : Shared} {Q : Value → Shared → Prop} {r3 a b c : Int} {D : Addr} {t1 t2 t3 : Tok} {n : Nat} {h' : Heap} {tk' : Nat}
    (h : ∀ (D : Addr) (x y : Int) (t1 t2 t3 : Tok) (n : Nat) (h' : Heap) (tk' : Nat), Fr h₀ L h' m → News h₀ L h' ((D, tup3 (.int x t1) (.int y t2) (.int r3 t3) n) :: news) → AllLt D news → Q (.ref D) { s with heap := h', toks := tk' })
    (F : Fr h₀ L h' m) (N : News h₀ L h' nws) (hm : (D, tup3 (.int a t1) (.int b t2) (.int c t3) n) ∈ nws) (hs : ∀ p ∈ news, p ∈ nws) (l : AllLt D news) (e3 : c = r3) : Q (.ref D) { s with heap := h', toks := tk' } := by
  subst e3
  refine h D a b t1 t2 t3 n h' tk' F (fun p hp => ?_) l
  rcases List.mem_cons.mp hp with rfl | hp
  · exact N _ hm
  · exact N p (hs p hp)
abbrev Led := List (Addr × Obj)
section
variable {prog : Program} {w : World} {A : Around} {E : Value → Shared → Prop} {s : Shared}
theorem in_topK {K : Frag} {h₀ : Heap} {L a : Addr} {m : Str → Option Value} {x : Int} {u : Tok} {Q : Value → Shared → Prop} {o : Obj} {items : Array Value} {n : Nat} {ns : List Int}
    (F : Fr h₀ L s.heap m) (X : K.In h₀) (ho : K.lookup a = some o) (hc : o.cls = .type "tuple") (hd : o.data = .seq items n) (hi : IntsAre items.toList ns)
    (h : Q (.bool (ns.any (· == x))) s) : wpAny (model prog w) A (compareOp .In (.int x u) (.ref a)) Q E s :=
  in_tuple_ints ⟨o, F.keep _ _ (X _ _ ho), hc, n, hd⟩ hi h
theorem beqD (a x : Int) : (a == x) = decide (x = a) := by
  rw [Bool.eq_iff_iff, beq_iff_eq, decide_eq_true_eq]; exact eq_comm
theorem any4 (x a b c d : Int) : ([a, b, c, d].any (· == x)) = decide (x = a ∨ x = b ∨ x = c ∨ x = d) := by
  simp only [List.any_cons, List.any_nil, beqD, Bool.decide_or, Bool.or_false]
theorem any5 (x a b c d e : Int) : ([a, b, c, d, e].any (· == x)) = decide (x = a ∨ x = b ∨ x = c ∨ x = d ∨ x = e) := by
  simp only [List.any_cons, List.any_nil, beqD, Bool.decide_or, Bool.or_false]
theorem any6 (x a b c d e f : Int) : ([a, b, c, d, e, f].any (· == x)) = decide (x = a ∨ x = b ∨ x = c ∨ x = d ∨ x = e ∨ x = f) := by
  simp only [List.any_cons, List.any_nil, beqD, Bool.decide_or, Bool.or_false]
end
end Mine
open PySem PySem.W PyProof.Rows
set_option Elab.async false
set_option maxRecDepth 100000
namespace Mine
def leapP (y : Int) : Bool := decide (Int.fmod y 4 = 0 ∧ (Int.fmod y 100 ≠ 0 ∨ Int.fmod y 400 = 0))
def dimG (y m : Int) : Int := if m = 2 then (if leapP y = true then 29 else 28) else if m = 4 ∨ m = 6 ∨ m = 9 ∨ m = 11 then 30 else 31
def toG (y m d : Int) : Int := 1721426 - 1 + 365 * (y - 1) + Int.fdiv (y - 1) 4 + -(Int.fdiv (y - 1) 100) + Int.fdiv (y - 1) 400 + (Int.fdiv (367 * m - 362) 12 + (if m ≤ 2 then 0 else if leapP y = true then -1 else -2) + d)
def fgY (n : Int) : Int :=
  if ¬ (Int.fdiv (Int.fmod (n - 1721426) 146097) 36524 = 4 ∨ Int.fdiv (Int.fmod (Int.fmod (Int.fmod (n - 1721426) 146097) 36524) 1461) 365 = 4) then
    Int.fdiv (n - 1721426) 146097 * 400 + Int.fdiv (Int.fmod (n - 1721426) 146097) 36524 * 100 + Int.fdiv (Int.fmod (Int.fmod (n - 1721426) 146097) 36524) 1461 * 4 + Int.fdiv (Int.fmod (Int.fmod (Int.fmod (n - 1721426) 146097) 36524) 1461) 365 + 1
  else Int.fdiv (n - 1721426) 146097 * 400 + Int.fdiv (Int.fmod (n - 1721426) 146097) 36524 * 100 + Int.fdiv (Int.fmod (Int.fmod (n - 1721426) 146097) 36524) 1461 * 4 + Int.fdiv (Int.fmod (Int.fmod (Int.fmod (n - 1721426) 146097) 36524) 1461) 365
def fgM (n : Int) : Int :=
  Int.fdiv ((n - toG (fgY n) 1 1 + (if n - toG (fgY n) 1 1 < 58 + (if leapP (fgY n) = true then 1 else 0) then 0 else if leapP (fgY n) = true then 1 else 2)) * 12 + 373) 367
def fgD (n : Int) : Int := n - toG (fgY n) (fgM n) 1 + 1
def leapJ (y : Int) : Bool := decide (Int.fmod y 4 = 0)
def dimJ (y m : Int) : Int := if m = 2 then (if leapJ y = true then 29 else 28) else if m = 4 ∨ m = 6 ∨ m = 9 ∨ m = 11 then 30 else 31
def toJu (y m d : Int) : Int := Int.fdiv (1461 * ((if m ≤ 2 then y - 1 else y) + 4716)) 4 + Int.fdiv (306001 * ((if m ≤ 2 then m + 12 else m) + 1)) 10000 + d - 1524
def fjC (n : Int) : Int := Int.fdiv (20 * (n + 1524) - 2442) 7305
def fjE (n : Int) : Int := Int.fdiv ((n + 1524 - Int.fdiv (1461 * fjC n) 4) * 10000) 306001
def fjM (n : Int) : Int := if fjE n < 14 then fjE n - 1 else fjE n - 13
def fjY (n : Int) : Int := if 2 < fjM n then fjC n - 4716 else fjC n - 4715
def fjD (n : Int) : Int := n + 1524 - Int.fdiv (1461 * fjC n) 4 - Int.fdiv (306001 * fjE n) 10000
def leapI (y : Int) : Bool := decide (Int.fmod (y * 11 + 14) 30 < 11)
def dimI (y m : Int) : Int := if (m = 1 ∨ m = 3 ∨ m = 5 ∨ m = 7 ∨ m = 9 ∨ m = 11) ∨ (m = 12 ∧ leapI y = true) then 30 else 29
def toI (y m d : Int) : Int := d + -(Int.fdiv (-59 * (m - 1)) 2) + (y - 1) * 354 + Int.fdiv (3 + 11 * y) 30 + 1948440 - 1
def fiY (n : Int) : Int := Int.fdiv (30 * (n - 1948440) + 10646) 10631
def fiM (n : Int) : Int := min 12 (-(Int.fdiv (-2 * (n - (29 + toI (fiY n) 1 1))) 59) + 1)
def fiD (n : Int) : Int := n - toI (fiY n) (fiM n) 1 + 1
def leapC (y : Int) : Bool := decide (Int.fmod y 4 = 3 ∨ Int.fmod y 4 = -1)
def dimC (y m : Int) : Int := if m ≤ 12 then 30 else if leapC y = true then 6 else 5
def toC (y m d : Int) : Int := d + (m - 1) * 30 + (y - 1) * 365 + Int.fdiv y 4 + 1825030 - 1
def fcY (n : Int) : Int := Int.fdiv (4 * (n - 1825030) + 1463) 1461
def fcM (n : Int) : Int := Int.fdiv (n - toC (fcY n) 1 1) 30 + 1
def fcD (n : Int) : Int := n - toC (fcY n) 1 1 - (fcM n - 1) * 30 + 1
def inStart (y : Int) : Int := toG (y + 78) 3 (22 - (if leapP (y + 78) = true then 1 else 0))
def inC (y : Int) : Int := if leapP (y + 78) = true then 31 else 30
def toN (y m d : Int) : Int := if m = 1 then inStart y + (d - 1) else inStart y + inC y + (if 5 < m - 2 then 5 else m - 2) * 31 + (if 8 ≤ m then (m - 7) * 30 else 0) + (d - 1)
def dimN (y m : Int) : Int := if (m = 2 ∨ m = 3 ∨ m = 4 ∨ m = 5 ∨ m = 6) ∨ (m = 1 ∧ leapP (y - 78) = true) then 31 else 30
def fnC (n : Int) : Int := if leapP (fgY n) = true then 31 else 30
def fnYd (n : Int) : Int := n - toG (fgY n) 1 1
def fnY (n : Int) : Int := if fnYd n < 80 then fgY n - 78 - 1 else fgY n - 78
def fnX (n : Int) : Int := if fnYd n < 80 then fnYd n + (fnC n + 31 * 5 + 30 * 3 + 10 + 80) - 80 else fnYd n - 80
def fnM (n : Int) : Int := if fnX n < fnC n then 1 else if fnX n - fnC n < 31 * 5 then Int.fdiv (fnX n - fnC n) 31 + 2 else Int.fdiv (fnX n - fnC n - 31 * 5) 30 + 7
def fnD (n : Int) : Int := if fnX n < fnC n then fnX n + 1 else if fnX n - fnC n < 31 * 5 then Int.fmod (fnX n - fnC n) 31 + 1 else Int.fmod (fnX n - fnC n - 31 * 5) 30 + 1
def leapA (y : Int) : Bool := decide (¬ y < 533 ∧ Int.fmod y 4 = 0)
def toA (y m d : Int) : Int := 1922502 + 365 * y + ((m - 1) * 30 + d)
def toS (y m d : Int) : Int := 2117211 + 365 * (y - 533) + Int.fdiv (y - 533) 4 + ((m - 1) * 30 + d)
def faY (n : Int) : Int := Int.fdiv (n - 1922502 - 1) 365
def faM (n : Int) : Int := Int.fdiv (Int.fmod (n - 1922502 - 1) 365) 30 + 1
def faD (n : Int) : Int := n - 1922502 - 365 * faY n - 30 * Int.fdiv (Int.fmod (n - 1922502 - 1) 365) 30
def fsU (n : Int) : Int := Int.fdiv (4 * (n - 2117211)) 1461
def fsT (n : Int) : Int := n - 2117211 - (365 * fsU n + Int.fdiv (fsU n) 4)
def fsV (n : Int) : Int := if fsT n = 0 then (if Int.fmod (fsU n) 4 = 0 then 366 else 365) else fsT n
def fsY (n : Int) : Int := if fsT n = 0 then fsU n - 1 + 533 else fsU n + 533
def fsM (n : Int) : Int := Int.fdiv (fsV n - 1) 30 + 1
def fsD (n : Int) : Int := fsV n - 30 * Int.fdiv (fsV n - 1) 30
def dimA (m : Int) : Int := if m = 13 then 5 else 30
def dimS (y m : Int) : Int := if m = 13 then (if leapA y = true then 6 else 5) else 30
theorem fd (a : Int) {b : Int} (h : 0 ≤ b) : Int.fdiv a b = a / b := Int.fdiv_eq_ediv_of_nonneg a h
theorem fm (a : Int) {b : Int} (h : 0 ≤ b) : Int.fmod a b = a % b := Int.fmod_eq_emod_of_nonneg a h
theorem leapC_iff (y : Int) : leapC y = true ↔ y % 4 = 3 := by
  unfold leapC; rw [decide_eq_true_eq, fm _ (by omega)]; omega
theorem dimC_eq (y m : Int) : dimC y m = if m ≤ 12 then 30 else if y % 4 = 3 then 6 else 5 := by
  unfold dimC; simp only [leapC_iff]
theorem fcY_of (n y r : Int) (hn : n = 1825030 + (y - 1) * 365 + y / 4 + r) (h0 : 0 ≤ r) (h1 : r ≤ 364 ∨ (r = 365 ∧ y % 4 = 3)) : fcY n = y := by
  unfold fcY; rw [fd _ (by omega)]; omega
theorem fc_split (n : Int) : ∃ r, n = 1825030 + (fcY n - 1) * 365 + fcY n / 4 + r ∧ 0 ≤ r ∧ (r ≤ 364 ∨ (r = 365 ∧ fcY n % 4 = 3)) := by
  have e : fcY n = (4 * (n - 1825030) + 1463) / 1461 := by unfold fcY; rw [fd _ (by omega)]
  generalize fcY n = y at e
  exact ⟨n - (1825030 + (y - 1) * 365 + y / 4), by omega, by omega, by omega⟩
theorem fcM_of {n y r : Int} (hy : fcY n = y) (hn : n = 1825030 + (y - 1) * 365 + y / 4 + r) : fcM n = r / 30 + 1 := by
  unfold fcM toC; rw [hy, fd _ (by omega), fd _ (by omega)]; omega
theorem fcD_of {n y r : Int} (hy : fcY n = y) (hn : n = 1825030 + (y - 1) * 365 + y / 4 + r) : fcD n = r % 30 + 1 := by
  unfold fcD; rw [fcM_of hy hn]; unfold toC; rw [hy, fd _ (by omega)]; omega
theorem facts_3 (n : Int) : (1 ≤ fcM n ∧ fcM n ≤ 13) ∧ (1 ≤ fcD n ∧ fcD n ≤ dimC (fcY n) (fcM n)) ∧ toC (fcY n) (fcM n) (fcD n) = n := by
  obtain ⟨r, hn, h0, h1⟩ := fc_split n
  rw [fcM_of rfl hn, fcD_of rfl hn, dimC_eq]
  refine ⟨by omega, ⟨by omega, ?_⟩, by unfold toC; rw [fd _ (by omega)]; omega⟩
  (repeat' split) <;> omega
theorem ends_3 (n : Int) : fcD (n + dimC (fcY n) (fcM n) - fcD n + 1) = 1 ∧ fcD (n + dimC (fcY n) (fcM n) - fcD n) = dimC (fcY n) (fcM n) := by
  obtain ⟨r, hn, h0, h1⟩ := fc_split n
  rw [fcM_of rfl hn, fcD_of rfl hn]
  generalize fcY n = y at *
  have key : (r / 30 < 12 ∧ dimC y (r / 30 + 1) = 30) ∨ (r / 30 = 12 ∧ y % 4 = 3 ∧ dimC y (r / 30 + 1) = 6) ∨ (r / 30 = 12 ∧ y % 4 ≠ 3 ∧ dimC y (r / 30 + 1) = 5) := by
    rw [dimC_eq]; (repeat' split) <;> omega
  generalize dimC y (r / 30 + 1) = L at key
  have a2 := fcY_of (n + L - (r % 30 + 1)) y (r - r % 30 + L - 1) (by omega) (by omega) (by omega)
  rw [fcD_of (r := r - r % 30 + L - 1) a2 (by omega)]
  rcases key with ⟨k1, k2⟩ | k
  · have a1 := fcY_of (n + L - (r % 30 + 1) + 1) y (r - r % 30 + L) (by omega) (by omega) (by omega)
    rw [fcD_of (r := r - r % 30 + L) a1 (by omega)]
    omega
  · have a1 := fcY_of (n + L - (r % 30 + 1) + 1) (y + 1) 0 (by omega) (by omega) (by omega)
    rw [fcD_of (r := 0) a1 (by omega)]
    omega
theorem facts_5 (n : Int) (h : 2117600 ≤ n) : (1 ≤ faM n ∧ faM n ≤ 13 ∧ 1 ≤ faY n) ∧ (1 ≤ faD n ∧ faD n ≤ dimA (faM n)) ∧ toA (faY n) (faM n) (faD n) = n := by
  unfold dimA toA faD faM faY
  simp only [fd _ (show (0 : Int) ≤ 365 by omega), fd _ (show (0 : Int) ≤ 30 by omega), fm _ (show (0 : Int) ≤ 365 by omega)]
  refine ⟨by omega, ⟨by omega, ?_⟩, by omega⟩
  split <;> omega
theorem fa_of (n q r : Int) (hn : n = 1922503 + 365 * q + r) (h0 : 0 ≤ r) (h1 : r < 365) : faD n = r % 30 + 1 ∧ faM n = r / 30 + 1 := by
  unfold faD faM faY
  simp only [fd _ (show (0 : Int) ≤ 365 by omega), fd _ (show (0 : Int) ≤ 30 by omega), fm _ (show (0 : Int) ≤ 365 by omega)]
  have e1 : (n - 1922502 - 1) % 365 = r := by omega
  have e2 : (n - 1922502 - 1) / 365 = q := by omega
  rw [e1, e2]
  omega
theorem ends_5 (n : Int) : faD (n + dimA (faM n) - faD n + 1) = 1 ∧ faD (n + dimA (faM n) - faD n) = dimA (faM n) := by
  obtain ⟨q, r, hn, h0, h1⟩ : ∃ q r : Int, n = 1922503 + 365 * q + r ∧ 0 ≤ r ∧ r < 365 := ⟨(n - 1922503) / 365, (n - 1922503) % 365, by omega, by omega, by omega⟩
  obtain ⟨eD, eM⟩ := fa_of n q r hn h0 h1
  rw [eD, eM]
  have key : (r / 30 < 12 ∧ dimA (r / 30 + 1) = 30) ∨ (r / 30 = 12 ∧ dimA (r / 30 + 1) = 5) := by
    unfold dimA; split <;> omega
  generalize dimA (r / 30 + 1) = L at key
  rw [(fa_of (n + L - (r % 30 + 1)) q (r - r % 30 + L - 1) (by omega) (by omega) (by omega)).1]
  rcases key with ⟨k1, k2⟩ | ⟨k1, k2⟩
  · rw [(fa_of (n + L - (r % 30 + 1) + 1) q (r - r % 30 + L) (by omega) (by omega) (by omega)).1]
    omega
  · rw [(fa_of (n + L - (r % 30 + 1) + 1) (q + 1) 0 (by omega) (by omega) (by omega)).1]
    omega
theorem leapA_iff (y : Int) : leapA y = true ↔ 533 ≤ y ∧ y % 4 = 0 := by
  unfold leapA; rw [decide_eq_true_eq, fm _ (by omega)]; omega
theorem dimS_eq (y m : Int) : dimS y m = if m = 13 then (if 533 ≤ y ∧ y % 4 = 0 then 6 else 5) else 30 := by
  unfold dimS; simp only [leapA_iff]
theorem fs_of (n u r : Int) (hn : n = 2117211 + 365 * u + u / 4 + r) (h0 : 1 ≤ r) (h1 : r ≤ 365 ∨ (r = 366 ∧ u % 4 = 3)) : fsY n = u + 533 ∧ fsV n = r := by
  have eU : fsU n = 4 * (n - 2117211) / 1461 := by unfold fsU; rw [fd _ (by omega)]
  have eT : fsT n = n - 2117211 - (365 * fsU n + fsU n / 4) := by unfold fsT; rw [fd _ (by omega)]
  unfold fsY fsV
  rw [fm _ (by omega)]
  rcases h1 with h1 | ⟨h1, h2⟩
  · have eX : fsU n = u := by omega
    rw [eX] at eT ⊢
    rw [if_neg (by omega), if_neg (by omega)]
    omega
  · have eX : fsU n = u + 1 := by omega
    rw [eX] at eT ⊢
    rw [if_pos (by omega), if_pos (by omega), if_pos (by omega)]
    omega
theorem fs_split (n : Int) : ∃ u r, n = 2117211 + 365 * u + u / 4 + r ∧ 1 ≤ r ∧ (r ≤ 365 ∨ (r = 366 ∧ u % 4 = 3)) := by
  by_cases h : n - 2117211 - (365 * (4 * (n - 2117211) / 1461) + (4 * (n - 2117211) / 1461) / 4) = 0
  · exact ⟨4 * (n - 2117211) / 1461 - 1, n - (2117211 + 365 * (4 * (n - 2117211) / 1461 - 1) + (4 * (n - 2117211) / 1461 - 1) / 4), by omega, by omega, by omega⟩
  · exact ⟨4 * (n - 2117211) / 1461, n - (2117211 + 365 * (4 * (n - 2117211) / 1461) + (4 * (n - 2117211) / 1461) / 4), by omega, by omega, by omega⟩
theorem fsM_of {n r : Int} (h : fsV n = r) : fsM n = (r - 1) / 30 + 1 := by unfold fsM; rw [h, fd _ (by omega)]
theorem fsD_of {n r : Int} (h : fsV n = r) : fsD n = (r - 1) % 30 + 1 := by unfold fsD; rw [h, fd _ (by omega)]; omega
theorem facts_6 (n : Int) (h : 2117600 ≤ n) : (1 ≤ fsM n ∧ fsM n ≤ 13 ∧ 533 ≤ fsY n) ∧ (1 ≤ fsD n ∧ fsD n ≤ dimS (fsY n) (fsM n)) ∧ toS (fsY n) (fsM n) (fsD n) = n := by
  obtain ⟨u, r, hn, h0, h1⟩ := fs_split n
  obtain ⟨eY, eV⟩ := fs_of n u r hn h0 h1
  rw [eY, fsM_of eV, fsD_of eV, dimS_eq]
  refine ⟨by omega, ⟨by omega, ?_⟩, by unfold toS; rw [fd _ (by omega)]; omega⟩
  (repeat' split) <;> omega
theorem ends_6 (n : Int) (h : 2117600 ≤ n) : fsD (n + dimS (fsY n) (fsM n) - fsD n + 1) = 1 ∧ fsD (n + dimS (fsY n) (fsM n) - fsD n) = dimS (fsY n) (fsM n) := by
  obtain ⟨u, r, hn, h0, h1⟩ := fs_split n
  obtain ⟨eY, eV⟩ := fs_of n u r hn h0 h1
  rw [eY, fsM_of eV, fsD_of eV]
  have key : ((r - 1) / 30 < 12 ∧ dimS (u + 533) ((r - 1) / 30 + 1) = 30) ∨ ((r - 1) / 30 = 12 ∧ u % 4 = 3 ∧ dimS (u + 533) ((r - 1) / 30 + 1) = 6) ∨ ((r - 1) / 30 = 12 ∧ u % 4 ≠ 3 ∧ dimS (u + 533) ((r - 1) / 30 + 1) = 5) := by
    rw [dimS_eq]; (repeat' split) <;> omega
  generalize dimS (u + 533) ((r - 1) / 30 + 1) = L at key
  have a2 := (fs_of (n + L - ((r - 1) % 30 + 1)) u (r - ((r - 1) % 30 + 1) + L) (by omega) (by omega) (by omega)).2
  rw [fsD_of a2]
  rcases key with ⟨k1, k2⟩ | k
  · have a1 := (fs_of (n + L - ((r - 1) % 30 + 1) + 1) u (r - ((r - 1) % 30 + 1) + L + 1) (by omega) (by omega) (by omega)).2
    rw [fsD_of a1]
    omega
  · have a1 := (fs_of (n + L - ((r - 1) % 30 + 1) + 1) (u + 1) 1 (by omega) (by omega) (by omega)).2
    rw [fsD_of a1]
    omega
theorem leapI_iff (y : Int) : leapI y = true ↔ 19 ≤ (3 + 11 * y) % 30 := by
  unfold leapI; rw [decide_eq_true_eq, fm _ (by omega), show y * 11 + 14 = (3 + 11 * y) + 11 by omega]
  generalize 3 + 11 * y = t
  omega
theorem zI (y : Int) : (19 ≤ (3 + 11 * y) % 30 ∧ (3 + 11 * (y + 1)) / 30 = (3 + 11 * y) / 30 + 1) ∨ (¬ 19 ≤ (3 + 11 * y) % 30 ∧ (3 + 11 * (y + 1)) / 30 = (3 + 11 * y) / 30) := by
  rw [show 3 + 11 * (y + 1) = (3 + 11 * y) + 11 by omega]
  generalize 3 + 11 * y = t
  omega
theorem yI (y : Int) : 11 * y + 3 = 30 * ((3 + 11 * y) / 30) + (3 + 11 * y) % 30 ∧ 0 ≤ (3 + 11 * y) % 30 ∧ (3 + 11 * y) % 30 < 30 := by omega
theorem fiY_of (n y r : Int) (hn : n = 1948440 + 354 * (y - 1) + (3 + 11 * y) / 30 + r) (h0 : 0 ≤ r) (h1 : r ≤ 353 ∨ (r = 354 ∧ 19 ≤ (3 + 11 * y) % 30)) : fiY n = y := by
  unfold fiY; rw [fd _ (by omega)]
  have := yI y
  generalize (3 + 11 * y) / 30 = z at *
  generalize (3 + 11 * y) % 30 = s at *
  omega
theorem fi_split (n : Int) : ∃ r, n = 1948440 + 354 * (fiY n - 1) + (3 + 11 * fiY n) / 30 + r ∧ 0 ≤ r ∧ (r ≤ 353 ∨ (r = 354 ∧ 19 ≤ (3 + 11 * fiY n) % 30)) := by
  have e : fiY n = (30 * (n - 1948440) + 10646) / 10631 := by unfold fiY; rw [fd _ (by omega)]
  generalize fiY n = y at e
  have := yI y
  generalize (3 + 11 * y) / 30 = z at *
  generalize (3 + 11 * y) % 30 = s at *
  exact ⟨n - (1948440 + 354 * (y - 1) + z), by omega, by omega, by omega⟩
def SI (m : Int) : Int := -((-59 * (m - 1)) / 2)
theorem toI_eq (y m d : Int) : toI y m d = 1948440 + 354 * (y - 1) + (3 + 11 * y) / 30 + SI m + d - 1 := by
  unfold toI SI; rw [fd _ (by omega), fd _ (by omega)]; omega
theorem miv (r m : Int) (h : 1 ≤ m ∧ m ≤ 12) (h0 : SI m ≤ r) (h1 : m = 12 ∨ r < SI (m + 1)) (h2 : r ≤ 354) : min 12 (-((-2 * (r - 29)) / 59) + 1) = m := by
  unfold SI at h0 h1
  have : m = 1 ∨ m = 2 ∨ m = 3 ∨ m = 4 ∨ m = 5 ∨ m = 6 ∨ m = 7 ∨ m = 8 ∨ m = 9 ∨ m = 10 ∨ m = 11 ∨ m = 12 := by omega
  rcases this with rfl | rfl | rfl | rfl | rfl | rfl | rfl | rfl | rfl | rfl | rfl | rfl <;> omega
theorem mivE (r : Int) (h0 : 0 ≤ r) (h2 : r ≤ 354) : ∃ m, 1 ≤ m ∧ m ≤ 12 ∧ SI m ≤ r ∧ (m = 12 ∨ r < SI (m + 1)) := by
  unfold SI
  by_cases h1 : 325 ≤ r
  · exact ⟨12, by omega, by omega, by omega, by omega⟩
  · exact ⟨2 * (r / 59) + 1 + (if r % 59 < 30 then 0 else 1), by split <;> omega, by split <;> omega, by split <;> omega, by split <;> omega⟩
theorem fiM_of {n y r m : Int} (hy : fiY n = y) (hn : n = 1948440 + 354 * (y - 1) + (3 + 11 * y) / 30 + r) (h : 1 ≤ m ∧ m ≤ 12) (h0 : SI m ≤ r) (h1 : m = 12 ∨ r < SI (m + 1)) (h2 : r ≤ 354) : fiM n = m ∧ fiD n = r - SI m + 1 := by
  have eM : fiM n = m := by
    unfold fiM; rw [hy, toI_eq, fd _ (by omega)]
    have := miv r m h h0 h1 h2
    rw [← this]
    have e1 : SI 1 = 0 := by unfold SI; omega
    rw [e1]
    congr 3
    omega
  refine ⟨eM, ?_⟩
  unfold fiD; rw [hy, eM, toI_eq]; omega
theorem dimI_eq (y m : Int) : dimI y m = if (m = 1 ∨ m = 3 ∨ m = 5 ∨ m = 7 ∨ m = 9 ∨ m = 11) ∨ (m = 12 ∧ 19 ≤ (3 + 11 * y) % 30) then 30 else 29 := by
  unfold dimI; simp only [leapI_iff]
theorem dimI_key (y m : Int) (h : 1 ≤ m ∧ m ≤ 12) : (m < 12 ∧ SI m + dimI y m = SI (m + 1)) ∨ (m = 12 ∧ 19 ≤ (3 + 11 * y) % 30 ∧ dimI y m = 30) ∨ (m = 12 ∧ ¬ 19 ≤ (3 + 11 * y) % 30 ∧ dimI y m = 29) := by
  rw [dimI_eq]; unfold SI
  have : m = 1 ∨ m = 2 ∨ m = 3 ∨ m = 4 ∨ m = 5 ∨ m = 6 ∨ m = 7 ∨ m = 8 ∨ m = 9 ∨ m = 10 ∨ m = 11 ∨ m = 12 := by omega
  rcases this with rfl | rfl | rfl | rfl | rfl | rfl | rfl | rfl | rfl | rfl | rfl | rfl <;> split <;> omega
theorem facts_2 (n : Int) : (1 ≤ fiM n ∧ fiM n ≤ 12) ∧ (1 ≤ fiD n ∧ fiD n ≤ dimI (fiY n) (fiM n)) ∧ toI (fiY n) (fiM n) (fiD n) = n := by
  obtain ⟨r, hn, h0, h1⟩ := fi_split n
  obtain ⟨m, m1, m2, m3, m4⟩ := mivE r h0 (by omega)
  obtain ⟨eM, eD⟩ := fiM_of rfl hn ⟨m1, m2⟩ m3 m4 (by omega)
  rw [eM, eD, toI_eq]
  have key := dimI_key (fiY n) m ⟨m1, m2⟩
  have e12 : SI 12 = 325 := by unfold SI; omega
  refine ⟨⟨m1, m2⟩, ⟨by omega, ?_⟩, by omega⟩
  rcases key with ⟨k1, k2⟩ | ⟨k1, k2, k3⟩ | ⟨k1, k2, k3⟩
  · omega
  · subst k1; omega
  · subst k1; omega
theorem ends_2 (n : Int) : fiD (n + dimI (fiY n) (fiM n) - fiD n + 1) = 1 ∧ fiD (n + dimI (fiY n) (fiM n) - fiD n) = dimI (fiY n) (fiM n) := by
  obtain ⟨r, hn, h0, h1⟩ := fi_split n
  obtain ⟨m, m1, m2, m3, m4⟩ := mivE r h0 (by omega)
  obtain ⟨eM, eD⟩ := fiM_of rfl hn ⟨m1, m2⟩ m3 m4 (by omega)
  rw [eM, eD]
  have key := dimI_key (fiY n) m ⟨m1, m2⟩
  have e12 : SI 12 = 325 := by unfold SI; omega
  have e1 : SI 1 = 0 := by unfold SI; omega
  have e2 : SI 2 = 30 := by unfold SI; omega
  have mono : m < 12 → SI (m + 1) ≤ 325 := by intro hm; unfold SI; omega
  have step : m + 1 < 12 → SI (m + 1) < SI (m + 1 + 1) := by intro hm; unfold SI; omega
  have lo : 0 ≤ SI m := by unfold SI; omega
  have hz := zI (fiY n)
  have dr : 29 ≤ dimI (fiY n) m ∧ dimI (fiY n) m ≤ 30 := by rw [dimI_eq]; split <;> omega
  generalize fiY n = y at *
  generalize dimI y m = L at *
  rcases key with ⟨k1, k2⟩ | k
  · have a2 := (fiM_of (m := m) (r := SI m + L - 1) (fiY_of (n + L - (r - SI m + 1)) y (SI m + L - 1) (by omega) (by omega) (by omega)) (by omega) ⟨m1, m2⟩ (by omega) (by omega) (by omega)).2
    have a1 := (fiM_of (m := m + 1) (r := SI m + L) (fiY_of (n + L - (r - SI m + 1) + 1) y (SI m + L) (by omega) (by omega) (by omega)) (by omega) (by omega) (by omega) (by omega) (by omega)).2
    rw [a1, a2]; omega
  · have hm : m = 12 := by omega
    subst hm
    have a2 := (fiM_of (m := 12) (r := SI 12 + L - 1) (fiY_of (n + L - (r - SI 12 + 1)) y (SI 12 + L - 1) (by omega) (by omega) (by omega)) (by omega) (by omega) (by omega) (by omega) (by omega)).2
    have a1 := (fiM_of (m := 1) (r := 0) (fiY_of (n + L - (r - SI 12 + 1) + 1) (y + 1) 0 (by omega) (by omega) (by omega)) (by omega) (by omega) (by omega) (by right; show (0 : Int) < SI 2; omega) (by omega)).2
    rw [a1, a2]; omega
theorem leapJ_iff (y : Int) : leapJ y = true ↔ y % 4 = 0 := by
  unfold leapJ; rw [decide_eq_true_eq, fm _ (by omega)]
theorem cJ (C : Int) : 1461 * C / 4 = 365 * C + C / 4 := by omega
theorem fjC_of (n C r : Int) (hn : n + 1524 = 365 * C + C / 4 + r) (h0 : 123 ≤ r) (h1 : r ≤ 487 ∨ (r = 488 ∧ C % 4 = 3)) : fjC n = C := by
  unfold fjC; rw [fd _ (by omega)]; omega
theorem fj_split (n : Int) : ∃ r, n + 1524 = 365 * fjC n + fjC n / 4 + r ∧ 123 ≤ r ∧ (r ≤ 487 ∨ (r = 488 ∧ fjC n % 4 = 3)) := by
  have e : fjC n = (20 * (n + 1524) - 2442) / 7305 := by unfold fjC; rw [fd _ (by omega)]
  generalize fjC n = C at e
  have hq : C = 4 * (C / 4) + C % 4 ∧ 0 ≤ C % 4 ∧ C % 4 < 4 := by omega
  generalize C / 4 = q at *
  generalize C % 4 = c at *
  exact ⟨n + 1524 - (365 * C + q), by omega, by omega, by omega⟩
def BE (E : Int) : Int := 306001 * E / 10000
theorem ejv (r E : Int) (h : 4 ≤ E ∧ E ≤ 15) (h0 : BE E < r) (h1 : E = 15 ∨ r ≤ BE (E + 1)) (h2 : r ≤ 488) : r * 10000 / 306001 = E := by
  unfold BE at h0 h1
  have : E = 4 ∨ E = 5 ∨ E = 6 ∨ E = 7 ∨ E = 8 ∨ E = 9 ∨ E = 10 ∨ E = 11 ∨ E = 12 ∨ E = 13 ∨ E = 14 ∨ E = 15 := by omega
  rcases this with rfl | rfl | rfl | rfl | rfl | rfl | rfl | rfl | rfl | rfl | rfl | rfl <;> omega
theorem ejE (r : Int) (h0 : 123 ≤ r) (h2 : r ≤ 488) : ∃ E, 4 ≤ E ∧ E ≤ 15 ∧ BE E < r ∧ (E = 15 ∨ r ≤ BE (E + 1)) := by
  unfold BE
  have : r ≤ 153 ∨ (153 < r ∧ r ≤ 183) ∨ (183 < r ∧ r ≤ 214) ∨ (214 < r ∧ r ≤ 244) ∨ (244 < r ∧ r ≤ 275) ∨ (275 < r ∧ r ≤ 306) ∨ (306 < r ∧ r ≤ 336) ∨ (336 < r ∧ r ≤ 367) ∨ (367 < r ∧ r ≤ 397) ∨ (397 < r ∧ r ≤ 428) ∨ (428 < r ∧ r ≤ 459) ∨ 459 < r := by omega
  rcases this with h | h | h | h | h | h | h | h | h | h | h | h
  · exact ⟨4, by omega, by omega, by omega, by omega⟩
  · exact ⟨5, by omega, by omega, by omega, by omega⟩
  · exact ⟨6, by omega, by omega, by omega, by omega⟩
  · exact ⟨7, by omega, by omega, by omega, by omega⟩
  · exact ⟨8, by omega, by omega, by omega, by omega⟩
  · exact ⟨9, by omega, by omega, by omega, by omega⟩
  · exact ⟨10, by omega, by omega, by omega, by omega⟩
  · exact ⟨11, by omega, by omega, by omega, by omega⟩
  · exact ⟨12, by omega, by omega, by omega, by omega⟩
  · exact ⟨13, by omega, by omega, by omega, by omega⟩
  · exact ⟨14, by omega, by omega, by omega, by omega⟩
  · exact ⟨15, by omega, by omega, by omega, by omega⟩
theorem fjD_of {n C r E : Int} (hC : fjC n = C) (hn : n + 1524 = 365 * C + C / 4 + r) (h : 4 ≤ E ∧ E ≤ 15) (h0 : BE E < r) (h1 : E = 15 ∨ r ≤ BE (E + 1)) (h2 : r ≤ 488) : fjE n = E ∧ fjD n = r - BE E := by
  have eE : fjE n = E := by
    unfold fjE; rw [hC, fd _ (by omega), fd _ (by omega), cJ]
    rw [show n + 1524 - (365 * C + C / 4) = r by omega]
    exact ejv r E h h0 h1 h2
  refine ⟨eE, ?_⟩
  unfold fjD BE; rw [hC, eE, fd _ (by omega), fd _ (by omega), cJ]; omega
theorem dimJ_eq (y m : Int) : dimJ y m = if m = 2 then (if y % 4 = 0 then 29 else 28) else if m = 4 ∨ m = 6 ∨ m = 9 ∨ m = 11 then 30 else 31 := by
  unfold dimJ; simp only [leapJ_iff]
def mE (E : Int) : Int := if E < 14 then E - 1 else E - 13
def yE (C E : Int) : Int := if 2 < mE E then C - 4716 else C - 4715
theorem dimJ_key (C E : Int) (h : 4 ≤ E ∧ E ≤ 15) : (E < 15 ∧ BE E + dimJ (yE C E) (mE E) = BE (E + 1)) ∨ (E = 15 ∧ C % 4 = 3 ∧ dimJ (yE C E) (mE E) = 29) ∨ (E = 15 ∧ ¬ C % 4 = 3 ∧ dimJ (yE C E) (mE E) = 28) := by
  rw [dimJ_eq]; unfold BE
  have : E = 4 ∨ E = 5 ∨ E = 6 ∨ E = 7 ∨ E = 8 ∨ E = 9 ∨ E = 10 ∨ E = 11 ∨ E = 12 ∨ E = 13 ∨ E = 14 ∨ E = 15 := by omega
  rcases this with rfl | rfl | rfl | rfl | rfl | rfl | rfl | rfl | rfl | rfl | rfl | rfl
  all_goals first
    | (left; simp [mE]; done)
    | (simp [mE, yE]; omega)
theorem toJu_eq (C E d : Int) (h : 4 ≤ E ∧ E ≤ 15) : toJu (yE C E) (mE E) d = 365 * C + C / 4 + BE E + d - 1524 := by
  unfold toJu BE; rw [fd _ (by omega), fd _ (by omega), ← cJ]
  by_cases h14 : E < 14
  · have e1 : mE E = E - 1 := if_pos h14
    have e2 : yE C E = C - 4716 := by unfold yE; rw [e1]; exact if_pos (by omega)
    rw [e1, e2, if_neg (show ¬ E - 1 ≤ 2 by omega), if_neg (show ¬ E - 1 ≤ 2 by omega), show C - 4716 + 4716 = C by omega, show E - 1 + 1 = E by omega]
  · have e1 : mE E = E - 13 := if_neg h14
    have e2 : yE C E = C - 4715 := by unfold yE; rw [e1]; exact if_neg (by omega)
    rw [e1, e2, if_pos (show E - 13 ≤ 2 by omega), if_pos (show E - 13 ≤ 2 by omega), show C - 4715 - 1 + 4716 = C by omega, show E - 13 + 12 + 1 = E by omega]
theorem fjM_eq {n E : Int} (h : fjE n = E) : fjM n = mE E := by unfold fjM mE; rw [h]
theorem fjY_eq {n E : Int} (h : fjE n = E) : fjY n = yE (fjC n) E := by unfold fjY yE; rw [fjM_eq h]
theorem facts_1 (n : Int) : (1 ≤ fjM n ∧ fjM n ≤ 12) ∧ (1 ≤ fjD n ∧ fjD n ≤ dimJ (fjY n) (fjM n)) ∧ toJu (fjY n) (fjM n) (fjD n) = n := by
  obtain ⟨r, hn, h0, h1⟩ := fj_split n
  obtain ⟨E, m1, m2, m3, m4⟩ := ejE r h0 (by omega)
  obtain ⟨eE, eD⟩ := fjD_of rfl hn ⟨m1, m2⟩ m3 m4 (by omega)
  rw [fjM_eq eE, fjY_eq eE, eD, toJu_eq _ _ _ ⟨m1, m2⟩]
  have key := dimJ_key (fjC n) E ⟨m1, m2⟩
  have e15 : BE 15 = 459 := by unfold BE; omega
  refine ⟨by unfold mE; split <;> omega, ⟨by omega, ?_⟩, by omega⟩
  rcases key with ⟨k1, k2⟩ | ⟨k1, k2, k3⟩ | ⟨k1, k2, k3⟩
  · omega
  · subst k1; omega
  · subst k1; omega
theorem ends_1 (n : Int) : fjD (n + dimJ (fjY n) (fjM n) - fjD n + 1) = 1 ∧ fjD (n + dimJ (fjY n) (fjM n) - fjD n) = dimJ (fjY n) (fjM n) := by
  obtain ⟨r, hn, h0, h1⟩ := fj_split n
  obtain ⟨E, m1, m2, m3, m4⟩ := ejE r h0 (by omega)
  obtain ⟨eE, eD⟩ := fjD_of rfl hn ⟨m1, m2⟩ m3 m4 (by omega)
  rw [fjM_eq eE, fjY_eq eE, eD]
  have key := dimJ_key (fjC n) E ⟨m1, m2⟩
  have e15 : BE 15 = 459 := by unfold BE; omega
  have e4 : BE 4 = 122 := by unfold BE; omega
  have e5 : BE (4 + 1) = 153 := by unfold BE; omega
  have mono : E < 15 → BE (E + 1) ≤ 459 := by intro hm; unfold BE; omega
  have step : E + 1 < 15 → BE (E + 1) < BE (E + 1 + 1) := by intro hm; unfold BE; omega
  have lo : 122 ≤ BE E := by unfold BE; omega
  have dr : 28 ≤ dimJ (yE (fjC n) E) (mE E) ∧ dimJ (yE (fjC n) E) (mE E) ≤ 31 := by rw [dimJ_eq]; (repeat' split) <;> omega
  generalize dimJ (yE (fjC n) E) (mE E) = L at *
  generalize fjC n = C at *
  rcases key with ⟨k1, k2⟩ | k
  · have a2 := (fjD_of (E := E) (r := BE E + L) (fjC_of (n + L - (r - BE E)) C (BE E + L) (by omega) (by omega) (by omega)) (by omega) ⟨m1, m2⟩ (by omega) (by omega) (by omega)).2
    have a1 := (fjD_of (E := E + 1) (r := BE E + L + 1) (fjC_of (n + L - (r - BE E) + 1) C (BE E + L + 1) (by omega) (by omega) (by omega)) (by omega) (by omega) (by omega) (by omega) (by omega)).2
    rw [a1, a2]; omega
  · have hm : E = 15 := by omega
    subst hm
    have a2 := (fjD_of (E := 15) (r := BE 15 + L) (fjC_of (n + L - (r - BE 15)) C (BE 15 + L) (by omega) (by omega) (by omega)) (by omega) (by omega) (by omega) (by omega) (by omega)).2
    have a1 := (fjD_of (E := 4) (r := 123) (fjC_of (n + L - (r - BE 15) + 1) (C + 1) 123 (by omega) (by omega) (by omega)) (by omega) (by omega) (by omega) (by right; rw [e5]; omega) (by omega)).2
    rw [a1, a2]; omega
theorem leapP_iff (y : Int) : leapP y = true ↔ y % 4 = 0 ∧ (y % 100 ≠ 0 ∨ y % 400 = 0) := by
  unfold leapP; rw [decide_eq_true_eq, fm _ (by omega), fm _ (by omega), fm _ (by omega)]
def lG (y : Int) : Int := if leapP y = true then 1 else 0
def BG (y : Int) : Int := 1721426 + 365 * (y - 1) + (y - 1) / 4 - (y - 1) / 100 + (y - 1) / 400
theorem lG_01 (y : Int) : lG y = 0 ∨ lG y = 1 := by unfold lG; split <;> omega
theorem BG_abcd (y a b c d : Int) (hy : y = 400 * a + 100 * b + 4 * c + d + 1) (hb : 0 ≤ b ∧ b ≤ 3) (hc : 0 ≤ c ∧ c ≤ 24) (hd : 0 ≤ d ∧ d ≤ 3) :
    BG y = 1721426 + 146097 * a + 36524 * b + 1461 * c + 365 * d ∧ lG y = (if d = 3 ∧ (c ≠ 24 ∨ b = 3) then 1 else 0) := by
  have e4 : (y - 1) / 4 = 100 * a + 25 * b + c := by omega
  have e100 : (y - 1) / 100 = 4 * a + b := by omega
  have e400 : (y - 1) / 400 = a := by omega
  refine ⟨by unfold BG; rw [e4, e100, e400]; omega, ?_⟩
  unfold lG
  have hiff : leapP y = true ↔ (d = 3 ∧ (c ≠ 24 ∨ b = 3)) := by
    rw [leapP_iff]
    have m4 : y % 4 = 0 ↔ d = 3 := by omega
    have m100 : y % 100 = 0 ↔ (d = 3 ∧ c = 24) := by omega
    have m400 : y % 400 = 0 ↔ (d = 3 ∧ c = 24 ∧ b = 3) := by omega
    rw [m4, ne_eq, m100, m400]
    omega
  simp only [hiff]
theorem abcd_y (y : Int) : ∃ a b c d : Int, y = 400 * a + 100 * b + 4 * c + d + 1 ∧ (0 ≤ b ∧ b ≤ 3) ∧ (0 ≤ c ∧ c ≤ 24) ∧ (0 ≤ d ∧ d ≤ 3) := by
  have h1 : y - 1 = 400 * ((y - 1) / 400) + (y - 1) % 400 ∧ 0 ≤ (y - 1) % 400 ∧ (y - 1) % 400 < 400 := by omega
  generalize (y - 1) / 400 = a at h1
  generalize (y - 1) % 400 = t1 at h1
  have h2 : t1 = 100 * (t1 / 100) + t1 % 100 ∧ 0 ≤ t1 % 100 ∧ t1 % 100 < 100 := by omega
  generalize t1 / 100 = b at h2
  generalize t1 % 100 = t2 at h2
  exact ⟨a, b, t2 / 4, t2 % 4, by omega, by omega, by omega, by omega⟩
theorem abcd_w (w : Int) : ∃ a b c d r : Int, w = 146097 * a + 36524 * b + 1461 * c + 365 * d + r ∧ (0 ≤ b ∧ b ≤ 3) ∧ (0 ≤ c ∧ c ≤ 24) ∧ (0 ≤ d ∧ d ≤ 3) ∧ 0 ≤ r ∧ (r ≤ 364 ∨ (r = 365 ∧ d = 3 ∧ (c ≠ 24 ∨ b = 3))) := by
  have h1 : w = 146097 * (w / 146097) + w % 146097 ∧ 0 ≤ w % 146097 ∧ w % 146097 < 146097 := by omega
  generalize w / 146097 = a at h1
  generalize w % 146097 = w1 at h1
  by_cases s1 : w1 = 146096
  · exact ⟨a, 3, 24, 3, 365, by omega, by omega, by omega, by omega, by omega, by omega⟩
  have h2 : w1 = 36524 * (w1 / 36524) + w1 % 36524 ∧ 0 ≤ w1 % 36524 ∧ w1 % 36524 < 36524 := by omega
  generalize w1 / 36524 = b at h2
  generalize w1 % 36524 = w2 at h2
  have h3 : w2 = 1461 * (w2 / 1461) + w2 % 1461 ∧ 0 ≤ w2 % 1461 ∧ w2 % 1461 < 1461 := by omega
  generalize w2 / 1461 = c at h3
  generalize w2 % 1461 = w3 at h3
  by_cases s2 : w3 = 1460
  · exact ⟨a, b, c, 3, 365, by omega, by omega, by omega, by omega, by omega, by omega⟩
  · exact ⟨a, b, c, w3 / 365, w3 % 365, by omega, by omega, by omega, by omega, by omega, by omega⟩
theorem fgY_abcd (n a b c d r : Int) (hn : n = 1721426 + 146097 * a + 36524 * b + 1461 * c + 365 * d + r) (hb : 0 ≤ b ∧ b ≤ 3) (hc : 0 ≤ c ∧ c ≤ 24) (hd : 0 ≤ d ∧ d ≤ 3) (h0 : 0 ≤ r) (h1 : r ≤ 364 ∨ (r = 365 ∧ d = 3 ∧ (c ≠ 24 ∨ b = 3))) :
    fgY n = 400 * a + 100 * b + 4 * c + d + 1 := by
  unfold fgY
  simp only [fd _ (show (0 : Int) ≤ 146097 by omega), fd _ (show (0 : Int) ≤ 36524 by omega), fd _ (show (0 : Int) ≤ 1461 by omega), fd _ (show (0 : Int) ≤ 365 by omega), fm _ (show (0 : Int) ≤ 146097 by omega), fm _ (show (0 : Int) ≤ 36524 by omega), fm _ (show (0 : Int) ≤ 1461 by omega)]
  have e1 : (n - 1721426) / 146097 = a := by omega
  have e2 : (n - 1721426) % 146097 = 36524 * b + 1461 * c + 365 * d + r := by omega
  rw [e1, e2]
  by_cases s1 : b = 3 ∧ c = 24 ∧ d = 3 ∧ r = 365
  · obtain ⟨rfl, rfl, rfl, rfl⟩ := s1
    rw [if_neg (by omega)]; omega
  have e3 : (36524 * b + 1461 * c + 365 * d + r) / 36524 = b := by omega
  have e4 : (36524 * b + 1461 * c + 365 * d + r) % 36524 = 1461 * c + 365 * d + r := by omega
  rw [e3, e4]
  have e5 : (1461 * c + 365 * d + r) / 1461 = c := by omega
  have e6 : (1461 * c + 365 * d + r) % 1461 = 365 * d + r := by omega
  rw [e5, e6]
  by_cases s2 : r = 365
  · rw [if_neg (by omega)]; omega
  · rw [if_pos (by omega)]; omega
theorem fgY_of (n y r : Int) (hn : n = BG y + r) (h0 : 0 ≤ r) (h1 : r ≤ 364 + lG y) : fgY n = y := by
  obtain ⟨a, b, c, d, hy, hb, hc, hd⟩ := abcd_y y
  have e := BG_abcd y a b c d hy hb hc hd
  have eB := e.1
  have eL := e.2
  have h2 : r ≤ 364 ∨ (r = 365 ∧ d = 3 ∧ (c ≠ 24 ∨ b = 3)) := by
    by_cases q : d = 3 ∧ (c ≠ 24 ∨ b = 3)
    · rw [if_pos q] at eL; omega
    · rw [if_neg q] at eL; omega
  have hn2 : n = 1721426 + 146097 * a + 36524 * b + 1461 * c + 365 * d + r := by omega
  have e3 := fgY_abcd n a b c d r hn2 hb hc hd h0 h2
  omega
theorem fg_split (n : Int) : ∃ r, n = BG (fgY n) + r ∧ 0 ≤ r ∧ r ≤ 364 + lG (fgY n) := by
  obtain ⟨a, b, c, d, r, hw, hb, hc, hd, h0, h1⟩ := abcd_w (n - 1721426)
  have eY := fgY_abcd n a b c d r (by omega) hb hc hd h0 h1
  obtain ⟨eB, eL⟩ := BG_abcd (fgY n) a b c d eY hb hc hd
  refine ⟨r, by rw [eB]; omega, h0, ?_⟩
  rw [eL]; split <;> omega
theorem BG_succ (y : Int) : BG (y + 1) = BG y + 365 + lG y := by
  have h := fg_split (BG y + 365 + lG y)
  have l := lG_01 y
  obtain ⟨a, b, c, d, hy, hb, hc, hd⟩ := abcd_y y
  obtain ⟨eB, eL⟩ := BG_abcd y a b c d hy hb hc hd
  by_cases s1 : d < 3
  · obtain ⟨eB', _⟩ := BG_abcd (y + 1) a b c (d + 1) (by omega) hb hc (by omega)
    rw [eB', eB, eL, if_neg (by omega)]; omega
  by_cases s2 : c < 24
  · obtain ⟨eB', _⟩ := BG_abcd (y + 1) a b (c + 1) 0 (by omega) hb (by omega) (by omega)
    rw [eB', eB, eL, if_pos (by omega)]; omega
  by_cases s3 : b < 3
  · obtain ⟨eB', _⟩ := BG_abcd (y + 1) a (b + 1) 0 0 (by omega) (by omega) (by omega) (by omega)
    rw [eB', eB, eL, if_neg (by omega)]; omega
  · obtain ⟨eB', _⟩ := BG_abcd (y + 1) (a + 1) 0 0 0 (by omega) (by omega) (by omega) (by omega)
    rw [eB', eB, eL, if_pos (by omega)]; omega
def SG (l m : Int) : Int := (367 * m - 362) / 12 + (if m ≤ 2 then 0 else l - 2)
theorem toG_eq (y m d : Int) : toG y m d = BG y + SG (lG y) m + d - 1 := by
  unfold toG BG SG lG
  simp only [fd _ (show (0 : Int) ≤ 4 by omega), fd _ (show (0 : Int) ≤ 100 by omega), fd _ (show (0 : Int) ≤ 400 by omega), fd _ (show (0 : Int) ≤ 12 by omega)]
  (repeat' split) <;> omega
theorem mgv (r m l : Int) (h : 1 ≤ m ∧ m ≤ 12) (hl : l = 0 ∨ l = 1) (h0 : SG l m ≤ r) (h1 : m = 12 ∨ r < SG l (m + 1)) (h2 : r ≤ 364 + l) : ((r + (if r < 58 + l then 0 else 2 - l)) * 12 + 373) / 367 = m := by
  unfold SG at h0 h1
  have : m = 1 ∨ m = 2 ∨ m = 3 ∨ m = 4 ∨ m = 5 ∨ m = 6 ∨ m = 7 ∨ m = 8 ∨ m = 9 ∨ m = 10 ∨ m = 11 ∨ m = 12 := by omega
  rcases hl with rfl | rfl <;> rcases this with rfl | rfl | rfl | rfl | rfl | rfl | rfl | rfl | rfl | rfl | rfl | rfl <;> simp only [Int.reduceLE, if_true, if_false, Int.reduceAdd] at h0 h1 <;> split <;> omega
theorem mgE (r l : Int) (hl : l = 0 ∨ l = 1) (h0 : 0 ≤ r) : ∃ m, 1 ≤ m ∧ m ≤ 12 ∧ SG l m ≤ r ∧ (m = 12 ∨ r < SG l (m + 1)) := by
  unfold SG
  have : r < 31 ∨ (31 ≤ r ∧ r < 59 + l) ∨ (59 + l ≤ r ∧ r < 90 + l) ∨ (90 + l ≤ r ∧ r < 120 + l) ∨ (120 + l ≤ r ∧ r < 151 + l) ∨ (151 + l ≤ r ∧ r < 181 + l) ∨ (181 + l ≤ r ∧ r < 212 + l) ∨ (212 + l ≤ r ∧ r < 243 + l) ∨ (243 + l ≤ r ∧ r < 273 + l) ∨ (273 + l ≤ r ∧ r < 304 + l) ∨ (304 + l ≤ r ∧ r < 334 + l) ∨ 334 + l ≤ r := by omega
  rcases this with h | h | h | h | h | h | h | h | h | h | h | h
  · exact ⟨1, by omega, by omega, by simp; omega, by simp; omega⟩
  · exact ⟨2, by omega, by omega, by simp; omega, by simp; omega⟩
  · exact ⟨3, by omega, by omega, by simp; omega, by simp; omega⟩
  · exact ⟨4, by omega, by omega, by simp; omega, by simp; omega⟩
  · exact ⟨5, by omega, by omega, by simp; omega, by simp; omega⟩
  · exact ⟨6, by omega, by omega, by simp; omega, by simp; omega⟩
  · exact ⟨7, by omega, by omega, by simp; omega, by simp; omega⟩
  · exact ⟨8, by omega, by omega, by simp; omega, by simp; omega⟩
  · exact ⟨9, by omega, by omega, by simp; omega, by simp; omega⟩
  · exact ⟨10, by omega, by omega, by simp; omega, by simp; omega⟩
  · exact ⟨11, by omega, by omega, by simp; omega, by simp; omega⟩
  · exact ⟨12, by omega, by omega, by simp; omega, by simp⟩
theorem fgM_of {n y r m : Int} (hy : fgY n = y) (hn : n = BG y + r) (h : 1 ≤ m ∧ m ≤ 12) (h0 : SG (lG y) m ≤ r) (h1 : m = 12 ∨ r < SG (lG y) (m + 1)) (h2 : r ≤ 364 + lG y) : fgM n = m ∧ fgD n = r - SG (lG y) m + 1 := by
  have s1 : SG (lG y) 1 = 0 := by unfold SG; simp
  have eM : fgM n = m := by
    have e := mgv r m (lG y) h (lG_01 y) h0 h1 h2
    unfold fgM; rw [hy, toG_eq, s1, fd _ (by omega)]
    rw [show n - (BG y + 0 + 1 - 1) = r by omega]
    rw [show (if leapP y = true then (1 : Int) else 0) = lG y from rfl, show (if leapP y = true then (1 : Int) else 2) = 2 - lG y by unfold lG; split <;> rfl]
    exact e
  refine ⟨eM, ?_⟩
  unfold fgD; rw [hy, eM, toG_eq]; omega
theorem dimG_eq (y m : Int) : dimG y m = if m = 2 then 28 + lG y else if m = 4 ∨ m = 6 ∨ m = 9 ∨ m = 11 then 30 else 31 := by
  unfold dimG lG; (repeat' split) <;> rfl
theorem dimG_key (y m : Int) (h : 1 ≤ m ∧ m ≤ 12) : (m < 12 ∧ SG (lG y) m + dimG y m = SG (lG y) (m + 1)) ∨ (m = 12 ∧ dimG y m = 31) := by
  rw [dimG_eq]; unfold SG
  have : m = 1 ∨ m = 2 ∨ m = 3 ∨ m = 4 ∨ m = 5 ∨ m = 6 ∨ m = 7 ∨ m = 8 ∨ m = 9 ∨ m = 10 ∨ m = 11 ∨ m = 12 := by omega
  rcases this with rfl | rfl | rfl | rfl | rfl | rfl | rfl | rfl | rfl | rfl | rfl | rfl <;> simp <;> omega
theorem SG12 (l : Int) : SG l 12 = 334 + l := by unfold SG; simp; omega
theorem facts_0 (n : Int) : (1 ≤ fgM n ∧ fgM n ≤ 12) ∧ (1 ≤ fgD n ∧ fgD n ≤ dimG (fgY n) (fgM n)) ∧ toG (fgY n) (fgM n) (fgD n) = n := by
  obtain ⟨r, hn, h0, h1⟩ := fg_split n
  obtain ⟨m, m1, m2, m3, m4⟩ := mgE r (lG (fgY n)) (lG_01 _) h0
  obtain ⟨eM, eD⟩ := fgM_of rfl hn ⟨m1, m2⟩ m3 m4 h1
  rw [eM, eD, toG_eq]
  have key := dimG_key (fgY n) m ⟨m1, m2⟩
  have e12 := SG12 (lG (fgY n))
  refine ⟨⟨m1, m2⟩, ⟨by omega, ?_⟩, by omega⟩
  rcases key with ⟨k1, k2⟩ | ⟨k1, k2⟩
  · omega
  · subst k1; omega
theorem ends_0 (n : Int) : fgD (n + dimG (fgY n) (fgM n) - fgD n + 1) = 1 ∧ fgD (n + dimG (fgY n) (fgM n) - fgD n) = dimG (fgY n) (fgM n) := by
  obtain ⟨r, hn, h0, h1⟩ := fg_split n
  obtain ⟨m, m1, m2, m3, m4⟩ := mgE r (lG (fgY n)) (lG_01 _) h0
  obtain ⟨eM, eD⟩ := fgM_of rfl hn ⟨m1, m2⟩ m3 m4 h1
  rw [eM, eD]
  have key := dimG_key (fgY n) m ⟨m1, m2⟩
  have e12 := SG12 (lG (fgY n))
  have e1 : SG (lG (fgY n + 1)) 1 = 0 := by unfold SG; simp
  have e2 : SG (lG (fgY n + 1)) (1 + 1) = 31 := by unfold SG; simp
  have hl := lG_01 (fgY n)
  have hl' := lG_01 (fgY n + 1)
  have hB := BG_succ (fgY n)
  have mono : m < 12 → SG (lG (fgY n)) (m + 1) ≤ 334 + lG (fgY n) := by intro hm; unfold SG; split <;> omega
  have step : m + 1 < 12 → SG (lG (fgY n)) (m + 1) < SG (lG (fgY n)) (m + 1 + 1) := by intro hm; unfold SG; (repeat' split) <;> omega
  have lo : 0 ≤ SG (lG (fgY n)) m := by unfold SG; split <;> omega
  have dr : 28 ≤ dimG (fgY n) m ∧ dimG (fgY n) m ≤ 31 := by rw [dimG_eq]; (repeat' split) <;> omega
  generalize dimG (fgY n) m = L at *
  generalize fgY n = y at *
  rcases key with ⟨k1, k2⟩ | ⟨k1, k2⟩
  · have a2 := (fgM_of (m := m) (r := SG (lG y) m + L - 1) (fgY_of (n + L - (r - SG (lG y) m + 1)) y (SG (lG y) m + L - 1) (by omega) (by omega) (by omega)) (by omega) ⟨m1, m2⟩ (by omega) (by omega) (by omega)).2
    have a1 := (fgM_of (m := m + 1) (r := SG (lG y) m + L) (fgY_of (n + L - (r - SG (lG y) m + 1) + 1) y (SG (lG y) m + L) (by omega) (by omega) (by omega)) (by omega) (by omega) (by omega) (by omega) (by omega)).2
    rw [a1, a2]; omega
  · subst k1
    have a2 := (fgM_of (m := 12) (r := SG (lG y) 12 + L - 1) (fgY_of (n + L - (r - SG (lG y) 12 + 1)) y (SG (lG y) 12 + L - 1) (by omega) (by omega) (by omega)) (by omega) (by omega) (by omega) (by omega) (by omega)).2
    have a1 := (fgM_of (m := 1) (r := 0) (fgY_of (n + L - (r - SG (lG y) 12 + 1) + 1) (y + 1) 0 (by omega) (by omega) (by omega)) (by omega) (by omega) (by omega) (by right; rw [e2]; omega) (by omega)).2
    rw [a1, a2]; omega
theorem fgM_range (n : Int) (_ : 2117600 ≤ n ∧ n ≤ 5400000) : 1 ≤ fgM n ∧ fgM n ≤ 12 := (facts_0 n).1
theorem fg_legal (n : Int) (h : 2117600 ≤ n ∧ n ≤ 5400000) : 1 ≤ fgM n ∧ fgM n ≤ 12 ∧ 1 ≤ fgD n ∧ fgD n ≤ dimG (fgY n) (fgM n) ∧ 2 ≤ fgY n ∧ fgY n ≤ 9990 ∨ n > 5320000 := by
  by_cases hb : n > 5320000
  · exact .inr hb
  obtain ⟨h1, h2, h3⟩ := facts_0 n
  obtain ⟨r, hn, h0, h4⟩ := fg_split n
  have hl := lG_01 (fgY n)
  unfold BG at hn
  generalize fgY n = y at *
  exact .inl ⟨h1.1, h1.2, h2.1, h2.2, by omega, by omega⟩
theorem fg_inv (n : Int) (_ : 2117600 ≤ n ∧ n ≤ 5400000) : toG (fgY n) (fgM n) (fgD n) = n := (facts_0 n).2.2
theorem inStart_eq (y : Int) : inStart y = BG (y + 78) + 80 := by
  unfold inStart; rw [toG_eq]
  have e : (if leapP (y + 78) = true then (1 : Int) else 0) = lG (y + 78) := rfl
  rw [e]; unfold SG; simp; omega
theorem inC_eq (y : Int) : inC y = 30 + lG (y + 78) := by unfold inC lG; split <;> rfl
theorem fnC_eq (n : Int) : fnC n = 30 + lG (fgY n) := by unfold fnC lG; split <;> rfl
theorem fnYd_eq {n y r : Int} (hy : fgY n = y) (hn : n = BG y + r) : fnYd n = r := by
  unfold fnYd; rw [hy, toG_eq]
  have e : SG (lG y) 1 = 0 := by unfold SG; simp
  rw [e]; omega
theorem dimN_eq (y m : Int) (h : m ≠ 1) : dimN y m = if m = 2 ∨ m = 3 ∨ m = 4 ∨ m = 5 ∨ m = 6 then 31 else 30 := by
  unfold dimN; split <;> split <;> omega
theorem fn_a {n y r : Int} (hy : fgY n = y) (hn : n = BG y + r) (h0 : 0 ≤ r) (h1 : r < 80) : fnY n = y - 79 ∧ fnM n = (r + 100) / 30 + 7 ∧ fnD n = (r + 100) % 30 + 1 := by
  have eX : fnX n = r + lG y + 285 := by unfold fnX; rw [fnYd_eq hy hn, fnC_eq, hy, if_pos h1]; omega
  refine ⟨by unfold fnY; rw [fnYd_eq hy hn, hy, if_pos h1]; omega, ?_, ?_⟩
  · unfold fnM; rw [eX, fnC_eq, hy, if_neg (by omega), if_neg (by omega), fd _ (by omega), show r + lG y + 285 - (30 + lG y) - 31 * 5 = r + 100 by omega]
  · unfold fnD; rw [eX, fnC_eq, hy, if_neg (by omega), if_neg (by omega), fm _ (by omega), show r + lG y + 285 - (30 + lG y) - 31 * 5 = r + 100 by omega]
theorem fn_b {n y r : Int} (hy : fgY n = y) (hn : n = BG y + r) (h0 : 80 ≤ r) : fnY n = y - 78 ∧ (r < 110 + lG y → fnM n = 1 ∧ fnD n = r - 79) ∧ (110 + lG y ≤ r → r < 265 + lG y → fnM n = (r - 110 - lG y) / 31 + 2 ∧ fnD n = (r - 110 - lG y) % 31 + 1) ∧
    (265 + lG y ≤ r → fnM n = (r - 265 - lG y) / 30 + 7 ∧ fnD n = (r - 265 - lG y) % 30 + 1) := by
  have eX : fnX n = r - 80 := by unfold fnX; rw [fnYd_eq hy hn, if_neg (by omega)]
  refine ⟨by unfold fnY; rw [fnYd_eq hy hn, hy, if_neg (by omega)], fun h1 => ⟨?_, ?_⟩, fun h1 h2 => ⟨?_, ?_⟩, fun h1 => ⟨?_, ?_⟩⟩
  · unfold fnM; rw [eX, fnC_eq, hy, if_pos (by omega)]
  · unfold fnD; rw [eX, fnC_eq, hy, if_pos (by omega)]; omega
  · unfold fnM; rw [eX, fnC_eq, hy, if_neg (by omega), if_pos (by omega), fd _ (by omega), show r - 80 - (30 + lG y) = r - 110 - lG y by omega]
  · unfold fnD; rw [eX, fnC_eq, hy, if_neg (by omega), if_pos (by omega), fm _ (by omega), show r - 80 - (30 + lG y) = r - 110 - lG y by omega]
  · unfold fnM; rw [eX, fnC_eq, hy, if_neg (by omega), if_neg (by omega), fd _ (by omega), show r - 80 - (30 + lG y) - 31 * 5 = r - 265 - lG y by omega]
  · unfold fnD; rw [eX, fnC_eq, hy, if_neg (by omega), if_neg (by omega), fm _ (by omega), show r - 80 - (30 + lG y) - 31 * 5 = r - 265 - lG y by omega]
theorem nToN1 (y d : Int) : toN y 1 d = BG (y + 78) + 80 + d - 1 := by unfold toN; rw [if_pos rfl, inStart_eq]; omega
theorem toN_s (y m d : Int) (h : 2 ≤ m) (h7 : m ≤ 6) : toN y m d = BG (y + 78) + 110 + lG (y + 78) + (m - 2) * 31 + d - 1 := by
  unfold toN; rw [if_neg (by omega), if_neg (by omega), if_neg (by omega), inStart_eq, inC_eq]; omega
theorem toN_w (y m d : Int) (h : 7 ≤ m) : toN y m d = BG (y + 78) + 265 + lG (y + 78) + (m - 7) * 30 + d - 1 := by
  unfold toN; rw [if_neg (by omega), inStart_eq, inC_eq]; (repeat' split) <;> omega
theorem facts_4 (n : Int) : (1 ≤ fnM n ∧ fnM n ≤ 12) ∧ (1 ≤ fnD n ∧ (fnM n ≠ 1 → fnD n ≤ dimN (fnY n) (fnM n))) ∧ toN (fnY n) (fnM n) (fnD n) = n := by
  obtain ⟨r, hn, h0, h1⟩ := fg_split n
  have hl := lG_01 (fgY n)
  by_cases c1 : r < 80
  · obtain ⟨eY, eM, eD⟩ := fn_a rfl hn h0 c1
    have hB := BG_succ (fgY n - 1)
    rw [show fgY n - 1 + 1 = fgY n by omega] at hB
    rw [eY, eM, eD, toN_w _ _ _ (by omega), show fgY n - 79 + 78 = fgY n - 1 by omega]
    refine ⟨by omega, ⟨by omega, fun hm => ?_⟩, by omega⟩
    rw [dimN_eq _ _ hm]; split <;> omega
  obtain ⟨eY, q1, q2, q3⟩ := fn_b rfl hn (by omega)
  have e78 : fgY n - 78 + 78 = fgY n := by omega
  by_cases c2 : r < 110 + lG (fgY n)
  · obtain ⟨eM, eD⟩ := q1 c2
    rw [eY, eM, eD, nToN1, e78]
    exact ⟨by omega, ⟨by omega, fun hm => absurd rfl hm⟩, by omega⟩
  by_cases c3 : r < 265 + lG (fgY n)
  · obtain ⟨eM, eD⟩ := q2 (by omega) c3
    rw [eY, eM, eD, toN_s _ _ _ (by omega) (by omega), e78]
    refine ⟨by omega, ⟨by omega, fun hm => ?_⟩, by omega⟩
    rw [dimN_eq _ _ hm, if_pos (by omega)]; omega
  · obtain ⟨eM, eD⟩ := q3 (by omega)
    rw [eY, eM, eD, toN_w _ _ _ (by omega), e78]
    refine ⟨by omega, ⟨by omega, fun hm => ?_⟩, by omega⟩
    rw [dimN_eq _ _ hm, if_neg (by omega)]; omega
theorem ends_4 (n : Int) (h4 : fnM n ≠ 1) : fnD (n + dimN (fnY n) (fnM n) - fnD n + 1) = 1 ∧ fnD (n + dimN (fnY n) (fnM n) - fnD n) = dimN (fnY n) (fnM n) := by
  obtain ⟨r, hn, h0, h1⟩ := fg_split n
  have hl := lG_01 (fgY n)
  have hl' := lG_01 (fgY n + 1)
  have hB := BG_succ (fgY n)
  rw [dimN_eq _ _ h4]
  by_cases c1 : r < 80
  · obtain ⟨eY, eM, eD⟩ := fn_a rfl hn h0 c1
    rw [eM, eD, if_neg (by omega)]
    generalize fgY n = y at *
    have b2 := fgY_of (n + 30 - ((r + 100) % 30 + 1)) y (r - (r + 100) % 30 + 29) (by omega) (by omega) (by omega)
    have a2 := (fn_a (r := r - (r + 100) % 30 + 29) b2 (by omega) (by omega) (by omega)).2.2
    have b1 := fgY_of (n + 30 - ((r + 100) % 30 + 1) + 1) y (r - (r + 100) % 30 + 30) (by omega) (by omega) (by omega)
    rw [a2]
    by_cases c5 : r - (r + 100) % 30 + 30 < 80
    · rw [(fn_a (r := r - (r + 100) % 30 + 30) b1 (by omega) (by omega) c5).2.2]; omega
    · rw [((fn_b (r := r - (r + 100) % 30 + 30) b1 (by omega) (by omega)).2.1 (by omega)).2]; omega
  obtain ⟨eY, q1, q2, q3⟩ := fn_b rfl hn (by omega)
  by_cases c2 : r < 110 + lG (fgY n)
  · exact absurd (q1 c2).1 h4
  by_cases c3 : r < 265 + lG (fgY n)
  · obtain ⟨eM, eD⟩ := q2 (by omega) c3
    rw [eM, eD, if_pos (by omega)]
    generalize fgY n = y at *
    generalize hq : r - 110 - lG y = q at *
    have b2 := fgY_of (n + 31 - (q % 31 + 1)) y (r - q % 31 + 30) (by omega) (by omega) (by omega)
    have a2 := ((fn_b (r := r - q % 31 + 30) b2 (by omega) (by omega)).2.2.1 (by omega) (by omega)).2
    have b1 := fgY_of (n + 31 - (q % 31 + 1) + 1) y (r - q % 31 + 31) (by omega) (by omega) (by omega)
    rw [a2]
    by_cases c5 : r - q % 31 + 31 < 265 + lG y
    · rw [((fn_b (r := r - q % 31 + 31) b1 (by omega) (by omega)).2.2.1 (by omega) c5).2]; omega
    · rw [((fn_b (r := r - q % 31 + 31) b1 (by omega) (by omega)).2.2.2 (by omega)).2]; omega
  · obtain ⟨eM, eD⟩ := q3 (by omega)
    rw [eM, eD, if_neg (by omega)]
    generalize fgY n = y at *
    generalize hq : r - 265 - lG y = q at *
    by_cases c5 : q / 30 ≤ 2
    · have b2 := fgY_of (n + 30 - (q % 30 + 1)) y (r - q % 30 + 29) (by omega) (by omega) (by omega)
      have b1 := fgY_of (n + 30 - (q % 30 + 1) + 1) y (r - q % 30 + 30) (by omega) (by omega) (by omega)
      rw [((fn_b (r := r - q % 30 + 29) b2 (by omega) (by omega)).2.2.2 (by omega)).2, ((fn_b (r := r - q % 30 + 30) b1 (by omega) (by omega)).2.2.2 (by omega)).2]
      omega
    · have b2 := fgY_of (n + 30 - (q % 30 + 1)) (y + 1) 19 (by omega) (by omega) (by omega)
      have b1 := fgY_of (n + 30 - (q % 30 + 1) + 1) (y + 1) 20 (by omega) (by omega) (by omega)
      rw [(fn_a (r := 19) b2 (by omega) (by omega) (by omega)).2.2, (fn_a (r := 20) b1 (by omega) (by omega) (by omega)).2.2]
      omega
end Mine
open PySem PySem.W PyProof.Rows
set_option Elab.async false
set_option maxRecDepth 100000
set_option maxHeartbeats 8000000
namespace Mine
local macro_rules | `(tactic| walk_at "eval Call") => `(tactic| (k_here; k_dflt (refine Call_ ?_)))
local macro_rules | `(tactic| walk_at "ite") => `(tactic| (k_here; k_openite; first
  | (refine ite_pos (by (simp only [beq_iff_eq, bne_iff_ne, ne_eq, decide_eq_true_eq]; first | assumption | omega)) ?_; walk_say "P+")
  | (refine ite_neg (by (simp only [beq_iff_eq, bne_iff_ne, ne_eq, decide_eq_true_eq]; first | assumption | omega)) ?_; walk_say "P-")))
local macro_rules | `(tactic| walk_at "compareOp In int ref") => `(tactic| (k_here; k_dflt (refine' in_topK ?k1 ?k2 ?k3 ?k4 ?k5 ?k6 ?_; (case k1 => k_asm); (case k2 => k_asm); (case k3 => k_is); (case k4 => rfl); (case k5 => rfl); (case k6 => l_intsW); k_whole); (first | rw [any4] | rw [any5] | rw [any6])))
theorem C_isleap (w : World) (mean : ExcName → Option Value) (mg mb : Str → Option Value) :
    CbC 22 0 (∀ (news : Led) (y : Int) (ty : Tok), CL w mean mg mb 1 22 news (True) [.int y ty] (fun _ => .bool (leapP y))) := by
  unfold CbC
  dsimp only [CL, CbRet]
  k_fill
  intro _ y ty
  intros; rename_i hp _ _ hret
  k_with_none
  k_with "tree" => simp only [leapP]
  have cbI : CbIn 22 := CbIn.mk
  refine wpAny_call ?_
  k_dflt cell_enter
  k_steps
  all_goals cb_end hret
theorem C_legal_date_gregorian (w : World) (mean : ExcName → Option Value) (mg mb : Str → Option Value) :
    CbC 173 0 (∀ (news : Led) (y : Int) (ty : Tok) (m : Int) (tm : Tok) (d : Int) (td : Tok), CL w mean mg mb 2 173 news (1 ≤ m ∧ m ≤ 12 ∧ 1 ≤ d ∧ (d ≤ 28 ∨ d ≤ dimG y m)) [.int y ty, .int m tm, .int d td] (fun _ => .bool true)) := by
  unfold CbC
  dsimp only [CL, CbRet]
  k_fill
  intro _ y ty m tm d td
  intros; rename_i hp _ _ hret
  k_with_none
  have c_isleap := C_isleap w mean mg mb
  dsimp only [CL, CT] at c_isleap
  k_with "call ref" => (k_dflt (refine' (CbC.out c_isleap) _ _ _ _ _ _ _ _ _ _ _ _ _ _ _ _ _ _ _ _ ?k1 ?k2 ?k3 ?k4 ?k5 ?kK ?kp ?kd ?ku ?_); (case k1 => k_asm); (case k2 => k_asm); (case k3 => k_asm); (case k4 => k_asm); (case k5 => k_asm); (case kK => first | exact rfl | assumption); (case kp => (first | trivial | omega | ((try dsimp only); omega) | assumption | l_fact)); (case kd => ktr_room); (case ku => ktr_units); intro t9 h9 tk9 F9 N9; (try dsimp only); (try k_fold))
  have cbI : CbIn 173 := CbIn.mk
  have hs : (m = 2 ∧ leapP y = true ∧ d ≤ 29) ∨ (m = 2 ∧ leapP y = false ∧ d ≤ 28) ∨ (m ≠ 2 ∧ (m = 4 ∨ m = 6 ∨ m = 9 ∨ m = 11) ∧ d ≤ 30) ∨ (m ≠ 2 ∧ ¬ (m = 4 ∨ m = 6 ∨ m = 9 ∨ m = 11) ∧ d ≤ 31) := by
    have h3 := hp.2.2.2
    unfold dimG at h3
    by_cases h2 : m = 2
    · cases hL : leapP y <;> simp only [h2, hL, if_true, if_false, Bool.false_eq_true] at h3
      · exact .inr (.inl ⟨h2, rfl, by omega⟩)
      · exact .inl ⟨h2, rfl, by omega⟩
    · by_cases h4 : m = 4 ∨ m = 6 ∨ m = 9 ∨ m = 11
      · simp only [h2, h4, if_true, if_false] at h3
        exact .inr (.inr (.inl ⟨h2, h4, by omega⟩))
      · simp only [h2, h4, if_true, if_false] at h3
        exact .inr (.inr (.inr ⟨h2, h4, by omega⟩))
  rcases hs with ⟨h2, hL, h3⟩ | ⟨h2, hL, h3⟩ | ⟨h2, h4, h3⟩ | ⟨h2, h4, h3⟩
  all_goals refine wpAny_call ?_
  all_goals k_dflt cell_enter
  all_goals k_steps
  all_goals cb_end hret
theorem C_to_jd_gregorian (w : World) (mean : ExcName → Option Value) (mg mb : Str → Option Value) :
    CbC 180 0 (∀ (news : Led) (y : Int) (ty : Tok) (m : Int) (tm : Tok) (d : Int) (td : Tok), CL w mean mg mb 3 180 news (1 ≤ m ∧ m ≤ 12 ∧ 1 ≤ d ∧ (d ≤ 28 ∨ d ≤ dimG y m)) [.int y ty, .int m tm, .int d td] (fun t => .int (toG y m d) t)) := by
  unfold CbC
  dsimp only [CL, CbRet]
  k_fill
  intro _ y ty m tm d td
  intros; rename_i hp _ _ hret
  k_with_none
  have c_legal_date_gregorian := C_legal_date_gregorian w mean mg mb
  dsimp only [CL, CT] at c_legal_date_gregorian
  have c_isleap := C_isleap w mean mg mb
  dsimp only [CL, CT] at c_isleap
  k_with "call ref" => (k_dflt (refine' (CbC.out c_legal_date_gregorian) _ _ _ _ _ _ _ _ _ _ _ _ _ _ _ _ _ _ _ _ _ _ _ _ ?k1 ?k2 ?k3 ?k4 ?k5 ?kK ?kp ?kd ?ku ?_); (case k1 => k_asm); (case k2 => k_asm); (case k3 => k_asm); (case k4 => k_asm); (case k5 => k_asm); (case kK => first | exact rfl | assumption); (case kp => (first | trivial | omega | ((try dsimp only); omega) | assumption | l_fact)); (case kd => ktr_room); (case ku => ktr_units); intro t9 h9 tk9 F9 N9; (try dsimp only); (try k_fold))
  k_with "call ref" => (k_dflt (refine' (CbC.out c_isleap) _ _ _ _ _ _ _ _ _ _ _ _ _ _ _ _ _ _ _ _ ?k1 ?k2 ?k3 ?k4 ?k5 ?kK ?kp ?kd ?ku ?_); (case k1 => k_asm); (case k2 => k_asm); (case k3 => k_asm); (case k4 => k_asm); (case k5 => k_asm); (case kK => first | exact rfl | assumption); (case kp => (first | trivial | omega | ((try dsimp only); omega) | assumption | l_fact)); (case kd => ktr_room); (case ku => ktr_units); intro t9 h9 tk9 F9 N9; (try dsimp only); (try k_fold))
  k_with "tree" => (simp only [toG]; (repeat' split) <;> first | rfl | omega | (simp_all; done))
  have cbI : CbIn 180 := CbIn.mk
  refine wpAny_call ?_
  k_dflt cell_enter
  k_steps
  all_goals cb_end hret
theorem fgY_A (n : Int) (h : Int.fdiv (Int.fmod (n - 1721426) 146097) 36524 = 4) : fgY n = Int.fdiv (n - 1721426) 146097 * 400 + Int.fdiv (Int.fmod (n - 1721426) 146097) 36524 * 100 + Int.fdiv (Int.fmod (Int.fmod (n - 1721426) 146097) 36524) 1461 * 4 + Int.fdiv (Int.fmod (Int.fmod (Int.fmod (n - 1721426) 146097) 36524) 1461) 365 := by
  unfold fgY; rw [if_neg (fun k => k (.inl h))]
theorem fgY_B (n : Int) (h : Int.fdiv (Int.fmod (Int.fmod (Int.fmod (n - 1721426) 146097) 36524) 1461) 365 = 4) : fgY n = Int.fdiv (n - 1721426) 146097 * 400 + Int.fdiv (Int.fmod (n - 1721426) 146097) 36524 * 100 + Int.fdiv (Int.fmod (Int.fmod (n - 1721426) 146097) 36524) 1461 * 4 + Int.fdiv (Int.fmod (Int.fmod (Int.fmod (n - 1721426) 146097) 36524) 1461) 365 := by
  unfold fgY; rw [if_neg (fun k => k (.inr h))]
theorem fgY_C (n : Int) (h : Int.fdiv (Int.fmod (n - 1721426) 146097) 36524 ≠ 4) (h2 : Int.fdiv (Int.fmod (Int.fmod (Int.fmod (n - 1721426) 146097) 36524) 1461) 365 ≠ 4) : fgY n = Int.fdiv (n - 1721426) 146097 * 400 + Int.fdiv (Int.fmod (n - 1721426) 146097) 36524 * 100 + Int.fdiv (Int.fmod (Int.fmod (n - 1721426) 146097) 36524) 1461 * 4 + Int.fdiv (Int.fmod (Int.fmod (Int.fmod (n - 1721426) 146097) 36524) 1461) 365 + 1 := by
  unfold fgY; rw [if_pos (fun k => k.elim h h2)]
theorem fgM_A (n : Int) {Y : Int} (hY : fgY n = Y) (h : n - toG Y 1 1 < 58 + (if leapP Y = true then 1 else 0)) : fgM n = Int.fdiv ((n - toG Y 1 1 + 0) * 12 + 373) 367 := by
  unfold fgM; rw [hY, if_pos h]
theorem fgM_B (n : Int) {Y : Int} (hY : fgY n = Y) (h : ¬ n - toG Y 1 1 < 58 + (if leapP Y = true then 1 else 0)) (l : leapP Y = true) : fgM n = Int.fdiv ((n - toG Y 1 1 + 1) * 12 + 373) 367 := by
  unfold fgM; rw [hY, if_neg h, if_pos l]
theorem fgM_C (n : Int) {Y : Int} (hY : fgY n = Y) (h : ¬ n - toG Y 1 1 < 58 + (if leapP Y = true then 1 else 0)) (l : leapP Y = false) : fgM n = Int.fdiv ((n - toG Y 1 1 + 2) * 12 + 373) 367 := by
  unfold fgM; rw [hY, if_neg h, if_neg (by rw [l]; exact Bool.false_ne_true)]
theorem fgM_pre {n a X : Int} (e : fgM n = a) (h : 1 ≤ fgM n ∧ fgM n ≤ 12) : 1 ≤ a ∧ a ≤ 12 ∧ 1 ≤ (1 : Int) ∧ ((1 : Int) ≤ 28 ∨ 1 ≤ X) := by omega
theorem fgD_of {n Y M : Int} (eY : fgY n = Y) (eM : fgM n = M) : n - toG Y M 1 + 1 = fgD n := by unfold fgD; rw [eY, eM]
theorem C_from_jd_gregorian (w : World) (mean : ExcName → Option Value) (mg mb : Str → Option Value) :
    CbC 187 0 (∀ (news : Led) (n : Int) (tn : Tok), CT w mean mg mb 4 187 news (2117600 ≤ n ∧ n ≤ 5400000) [.int n tn] (fgY n) (fgM n) (fgD n)) := by
  unfold CbC
  dsimp only [CT]
  k_fill
  intro _ n tn
  intros; rename_i hp _ _ hret
  k_with_none
  have c_to_jd_gregorian := C_to_jd_gregorian w mean mg mb
  dsimp only [CL, CT] at c_to_jd_gregorian
  have c_isleap := C_isleap w mean mg mb
  dsimp only [CL, CT] at c_isleap
  k_with "call ref" => (k_dflt (refine' (CbC.out c_to_jd_gregorian) _ _ _ _ _ _ _ _ _ _ _ _ _ _ _ _ _ _ _ _ _ _ _ _ ?k1 ?k2 ?k3 ?k4 ?k5 ?kK ?kp ?kd ?ku ?_); (case k1 => k_asm); (case k2 => k_asm); (case k3 => k_asm); (case k4 => k_asm); (case k5 => k_asm); (case kK => first | exact rfl | assumption); (case kp => (first | omega | ((first | have eY := fgY_A n (by assumption) | have eY := fgY_B n (by assumption) | have eY := fgY_C n (by assumption) (by assumption)); (first | have eM := fgM_A n eY (by assumption) | have eM := fgM_B n eY (by assumption) (by assumption) | have eM := fgM_C n eY (by assumption) (by assumption)); exact fgM_pre eM (fgM_range n hp)))); (case kd => ktr_room); (case ku => ktr_units); intro t9 h9 tk9 F9 N9; (try dsimp only); (try k_fold))
  k_with "call ref" => (k_dflt (refine' (CbC.out c_isleap) _ _ _ _ _ _ _ _ _ _ _ _ _ _ _ _ _ _ _ _ ?k1 ?k2 ?k3 ?k4 ?k5 ?kK ?kp ?kd ?ku ?_); (case k1 => k_asm); (case k2 => k_asm); (case k3 => k_asm); (case k4 => k_asm); (case k5 => k_asm); (case kK => first | exact rfl | assumption); (case kp => (first | trivial | omega | ((try dsimp only); omega) | assumption | l_fact)); (case kd => ktr_room); (case ku => ktr_units); intro t9 h9 tk9 F9 N9; (try dsimp only); (try k_fold))
  have cbI : CbIn 187 := CbIn.mk
  refine wpAny_call ?_
  k_dflt cell_enter
  k_steps
  all_goals ((first | have eY := fgY_A n (by assumption) | have eY := fgY_B n (by assumption) | have eY := fgY_C n (by assumption) (by assumption)); (first | have eM := fgM_A n eY (by assumption) | have eM := fgM_B n eY (by assumption) (by assumption) | have eM := fgM_C n eY (by assumption) (by assumption)); refine' ct_ret hret ?k1 ?k2 ?k3 eY.symm eM.symm (fgD_of eY eM); (case k1 => k_asm); (case k2 => k_asm); (case k3 => first | exact allLt_of (by assumption) | assumption))
end Mine
open PySem PySem.W PyProof.Rows
set_option Elab.async false
set_option maxRecDepth 100000
namespace Mine
section
variable {prog : Program} {w : World} {A : Around} {E : Value → Shared → Prop} {s : Shared}
theorem adjust_upto (b n : Nat) (hb : b ≤ n) : Builtin.Slice.sliceAdjust none (some (b : Int)) 1 (n : Int) = (0, (b : Int)) := by
  unfold Builtin.Slice.sliceAdjust
  have h1 : ¬ ((1 : Int) < 0) := by omega
  have h2 : ¬ ((b : Int) < 0) := by omega
  simp only [h1, h2, if_false]
  congr 1
  omega
theorem places_upto (b : Nat) : Builtin.Slice.slicePlaces 0 (b : Int) 1 = b := by
  unfold Builtin.Slice.slicePlaces
  have h1 : (1 : Int) > 0 := by omega
  simp only [h1, if_true, Int.ediv_one]
  split <;> omega
theorem sliceApplied_upto {sl : Addr} {b n : Nat} {u : Tok} {Q : Int × Int × Nat → Shared → Prop} (hs : s.heap.IsSliceOf sl .none (.int b u) .none) (hb : b ≤ n) (h : Q (0, 1, b) s) :
    wpAny (model prog w) A (Builtin.Slice.sliceApplied (.ref sl) (pure (n : Int))) Q E s := by
  obtain ⟨os, hos, hcs, hds⟩ := id hs
  unfold Builtin.Slice.sliceApplied Builtin.Slice.sliceFields
  refine wpAny_bind (wpAny_bind (wpAny_field hos hds (x := .none) rfl (wpAny_bind (wpAny_field hos hds (x := .int b u) rfl (wpAny_bind (wpAny_field hos hds (x := .none) rfl (wpAny_pure ?_)))))))
  refine wpAny_bind (slicePart_none ?_)
  show wpAny _ _ (if ((1 : Int) == 0) = true then _ else _) _ _ s
  rw [if_neg (by decide)]
  refine wpAny_bind (slicePart_none (wpAny_bind (slicePart_int (wpAny_bind (wpAny_pure ?_)))))
  show wpAny _ _ (match Builtin.Slice.sliceAdjust none (some (b : Int)) 1 (n : Int) with | (lo, hi) => pure (lo, (1 : Int), Builtin.Slice.slicePlaces lo hi 1)) _ _ s
  rw [adjust_upto b n hb]
  show wpAny _ _ (pure ((0 : Int), (1 : Int), Builtin.Slice.slicePlaces (0 : Int) (b : Int) 1)) _ _ s
  rw [places_upto b]
  exact wpAny_pure h
theorem pick_upto (xs : Array Value) (b : Nat) : ((List.range b).filterMap fun (k : Nat) => xs[((0 : Int) + (k : Int) * 1).toNat]?).toArray = (xs.toList.take b).toArray := by
  have e : (fun (k : Nat) => xs[((0 : Int) + (k : Int) * 1).toNat]?) = fun k => xs[0 + k]? := by
    funext k
    have : ((0 : Int) + (k : Int) * 1).toNat = 0 + k := by omega
    rw [this]
  rw [e]
  have := pick_run xs 0 b
  rw [List.filterMap_map] at this
  have e2 : ((fun x => xs[x]?) ∘ fun x => 0 + x) = fun k => xs[0 + k]? := rfl
  rw [e2] at this
  rw [this, List.drop_zero]
theorem getItem_tuple_upto {t sl : Addr} {items : Array Value} {b : Nat} {u : Tok} {Q : Value → Shared → Prop} (ht : IsTup s.heap t items) (hs : s.heap.IsSliceOf sl .none (.int b u) .none) (hb : b < items.size)
    (h : Q (.ref s.heap.objs.size) { s with heap := s.heap.push { cls := .type "tuple", data := .seq (items.toList.take b).toArray } })
    (hsz : items.size ≤ sizeLine := by size_fits) : wpAny (model prog w) A (getItem (.ref t) (.ref sl)) Q E s := by
  have hdrop : sizeOk (.seq (items.toList.take b).toArray) := by
    show (items.toList.take b).toArray.size ≤ sizeLine
    rw [List.size_toArray, List.length_take, Array.length_toList]
    omega
  obtain ⟨os, hos, hcs, hds⟩ := id hs
  have hTs : s.TypeIs (.ref sl) "slice" := ⟨os, hos, hcs⟩
  unfold getItem
  try with_reducible refine wpAny_holding ?_
  first | refine wpAny_bind (wpAny_pure ?_) | skip
  refine wpAny_bind (wpAny_sequenceKey ht.typeIs (by decide) ?_)
  refine wpAny_bind (wpAny_callSpecial?_slot (name := Str.ofString "__getitem__") ht.typeIs slot_tuple_getitem
    (wpAny_call_entry slot_tuple_getitem ht.typeIs entry_tuple_getitem ?_ (args_tuple_getitem _ _)))
  show wpAny _ _ (Builtin.Tuple.tupleItemsOf (.ref t) >>= _) _ _ s
  refine wpAny_bind (tupleItemsOf_ ht ?_)
  refine wpAny_bind (wpAny_typeOf hTs ?_)
  rw [if_pos (by decide)]
  refine wpAny_bind (sliceApplied_upto hs (Nat.le_of_lt hb) ?_)
  have hno : ¬ (((0 : Int) == 0 && (1 : Int) == 1 && b == items.size) = true) := by
    have : (b == items.size) = false := by rw [beq_eq_false_iff_ne]; omega
    rw [this]; simp
  show wpAny _ _ (if ((0 : Int) == 0 && (1 : Int) == 1 && b == items.size) = true then _ else _) _ _ s
  rw [if_neg hno, pick_upto items b]
  first
    | exact wpAny_bind (m := Builtin.Tuple.tupleExact _) (wpAny_newObj_type (wpAny_pure ⟨_, rfl, wpAny_pure h⟩) hdrop)
    | exact wpAny_bind (m := Builtin.Tuple.tupleExact _) (wpAny_newObj_type (wpAny_bind (wpAny_pure (wpAny_pure ⟨_, rfl, wpAny_pure h⟩))) hdrop)
    | exact wpAny_bind (wpAny_bind (m := Builtin.Tuple.tupleExact _) (wpAny_newObj_type (wpAny_pure (wpAny_pure ⟨_, rfl, wpAny_pure h⟩)) hdrop))
    | exact wpAny_bind (wpAny_bind (m := Builtin.Tuple.tupleExact _) (wpAny_newObj_type (wpAny_pure ⟨_, rfl, wpAny_pure h⟩) hdrop))
end
section
variable {prog : Program} {w : World} {A : Around} {E : Value → Shared → Prop} {s : Shared} {h₀ : Heap} {L : Addr} {m : Str → Option Value} {news : List (Addr × Obj)}
theorem slice_tuple_upto {value slice : Expr} {t : Addr} {items : Array Value} {b : Nat} {u : Tok} {Q : Value → Shared → Prop}
    (F : Fr h₀ L s.heap m) (N : News h₀ L s.heap news) (ht : IsTup s.heap t items) (hb : b < items.size)
    (h : ∀ h', Fr h₀ L h' m → News h₀ L h' ((s.heap.objs.size + 1, { cls := .type "tuple", data := .seq (items.toList.take b).toArray }) :: news) → IsTup h' (s.heap.objs.size + 1) (items.toList.take b).toArray → Q (.ref (s.heap.objs.size + 1)) { s with heap := h' })
    (hs : subscripted slice false (.ref t) (.ref s.heap.objs.size) = operate [.ref s.heap.objs.size, .ref t] (getItem (.ref t) (.ref s.heap.objs.size)) := by with_unfolding_all rfl)
    (hg : ∀ r, letTemporaryGo value (.ref t) r = pure () := by intro _; with_unfolding_all rfl)
    (hsz : items.size ≤ sizeLine := by size_fits) :
    wpAny (model prog w) A (subscriptTail value slice (.ref t) (.ref s.heap.objs.size)) Q E { s with heap := s.heap.push { cls := .type "slice", data := .fields #[.none, .int b u, .none] } } := by
  have ht' : IsTup (s.heap.push { cls := .type "slice", data := .fields #[.none, .int b u, .none] }) t items := ht.keeps fun _ _ e => Heap.get?_push_of_some _ e
  refine subscriptTail_ops (s := { s with heap := s.heap.push { cls := .type "slice", data := .fields #[.none, .int b u, .none] } }) ht'.typeIs slot_tuple_getitem.lookup
    (getItem_tuple_upto ht' (Heap.IsSliceOf.new ..) hb ?_ hsz) hs hg
  have N1 := News.push (F.push { cls := .type "slice", data := .fields #[.none, .int b u, .none] }) (N.grown fun _ _ e => Heap.get?_push_of_some _ e) { cls := .type "tuple", data := .seq (items.toList.take b).toArray }
  rw [Heap.size_push] at N1
  show Q (.ref (s.heap.push _).objs.size) _
  rw [Heap.size_push]
  refine h _ ((F.push _).push _) N1 (News.isTup N1 (.head _))
end
section
variable {prog : Program} {w : World} {A : Around} {E : Value → Shared → Prop} {s : Shared} {env : Env} {h₀ : Heap} {x : Str} {body : List Stmt} {Q : Flow → Shared → Prop}
theorem iter_tup {t : Addr} {items : Array Value} {ns : List Int} {m₀ : Str → Option Value} {news : Led} (J : (Str → Option Value) → Prop)
    (hh : A.handled = none) (ht : IsTup s.heap t items) (hi : IntsAre items.toList ns) (hL : t ≠ env.locals) (F : Fr h₀ env.locals s.heap m₀) (N : News h₀ env.locals s.heap news) (hj : J m₀)
    (turn : ∀ n u m₁ h tk nw, J m₁ → Fr h₀ env.locals h (fun y => if y = x then some (.int n u) else m₁ y) → News h₀ env.locals h nw →
      wpAny (model prog w) A (execs body env) (fun f s' => f = .next ∧ ∃ h' tk' m', s' = { s with heap := h', toks := tk' } ∧ Fr h₀ env.locals h' m' ∧ News h₀ env.locals h' nw ∧ J m') E { s with heap := h, toks := tk })
    (done : ∀ m₁ h tk, J m₁ → Fr h₀ env.locals h m₁ → News h₀ env.locals h news → Q .next { s with heap := h, toks := tk }) :
    wpAny (model prog w) A (pyIter (.ref t)) (fun it s₂ => LoopAtV prog w A h₀ env x body Q E it s₂) E s := by
  obtain ⟨ot, hot, htr⟩ := id ht
  have htlt : t < s.heap.objs.size := Heap.lt_size hot
  have hne : t ≠ s.heap.objs.size := Nat.ne_of_lt htlt
  refine wpAny_pyIter_tuple ht ?_
  have W := Walks.tuple (prog := prog) (w := w) hh s.heap.objs.size t hne items
  refine ⟨_, _, _, items.size, _, _, m₀, news, fun _ m₁ news₁ => news₁ = news ∧ J m₁, rfl, W, ?_, ?_, ?_, ⟨⟨_, Heap.get?_push_size _ rfl, rfl, rfl⟩, ⟨ot, Heap.get?_push_of_some _ hot, htr⟩⟩, F.push _, (fun p hp => ⟨Heap.get?_push_of_some _ (N p hp).1, (N p hp).2⟩), ⟨rfl, hj⟩, ?_, ?_⟩
  · intro hm
    rcases List.mem_cons.mp hm with e | hm
    · exact absurd F.ns.lt (e ▸ Nat.lt_irrefl _)
    · exact hL (List.mem_singleton.mp hm).symm
  · intro b hb
    rw [List.mem_singleton.mp hb]
    exact next_is_new F
  · intro p hp hI
    exact absurd (Heap.lt_size (N p hp).1) ((List.mem_singleton.mp hI) ▸ Nat.lt_irrefl _)
  · rintro i v m₁ news₁ s₁ own ⟨hh', tk', rfl⟩ hin hP ⟨rfl, hJ⟩ hoff _ _ _ _ F₁ N₁
    obtain ⟨u, hx⟩ := hi.get i (ns[i]'(by rw [← hi.length]; simpa using hin)) (by simp)
    have hv : v = .int (ns[i]'(by rw [← hi.length]; simpa using hin)) u := by
      have hP' : items.toList[i]? = some v := by simpa using hP
      rw [hx] at hP'; exact (Option.some.inj hP').symm
    subst hv
    refine wpAny_mono (turn _ u m₁ hh' tk' (own ++ news₁) hJ F₁ N₁) (fun f s₂ p => ?_) fun _ _ e => e
    obtain ⟨rfl, h', tk2, m', rfl, F', N', hJ'⟩ := p
    exact .next ⟨rfl, h', tk2, m', news₁, rfl, F', N', hoff, rfl, hJ'⟩
  · rintro h' tk m' news' F' N' _ ⟨rfl, hJ⟩
    exact done m' h' tk hJ F' N'
def TurnEnd (h₀ : Heap) (L : Addr) (nw : Led) (x y : Str) (m₀ : Str → Option Value) (s : Shared) (f : Flow) (s' : Shared) : Prop :=
  f = .next ∧ ∃ h' tk' m', s' = { s with heap := h', toks := tk' } ∧ Fr h₀ L h' m' ∧ News h₀ L h' nw ∧ (∃ a' t', m' y = some (.int a' t')) ∧ ∀ z, z ≠ x → z ≠ y → m' z = m₀ z
theorem iter_tupF {t : Addr} {items : Array Value} {ns : List Int} {m₀ : Str → Option Value} {news : Led} {y : Str} {a₀ : Int} {t₀ : Tok}
    (hh : A.handled = none) (ht : IsTup s.heap t items) (hi : IntsAre items.toList ns) (hL : t ≠ env.locals) (F : Fr h₀ env.locals s.heap m₀) (N : News h₀ env.locals s.heap news) (hy : m₀ y = some (.int a₀ t₀)) (hyx : y ≠ x)
    (turn : ∀ n u a ta h tk nw, Fr h₀ env.locals h (fun z => if z = x then some (.int n u) else if z = y then some (.int a ta) else m₀ z) → News h₀ env.locals h nw →
      wpAny (model prog w) A (execs body env) (TurnEnd h₀ env.locals nw x y m₀ s) E { s with heap := h, toks := tk })
    (done : ∀ (u : Str → Option Value) a ta h tk, Fr h₀ env.locals h (fun z => if z = x then u z else if z = y then some (.int a ta) else m₀ z) → News h₀ env.locals h news → Q .next { s with heap := h, toks := tk }) :
    wpAny (model prog w) A (pyIter (.ref t)) (fun it s₂ => LoopAtV prog w A h₀ env x body Q E it s₂) E s := by
  refine iter_tup (fun m => (∃ a' t', m y = some (.int a' t')) ∧ ∀ z, z ≠ x → z ≠ y → m z = m₀ z) hh ht hi hL F N ⟨⟨_, _, hy⟩, fun _ _ _ => rfl⟩ ?_ ?_
  · rintro n u m₁ h tk nw ⟨⟨a, ta, ha⟩, hm⟩ F₁ N₁
    have e : (fun z => if z = x then some (Value.int n u) else m₁ z) = fun z => if z = x then some (Value.int n u) else if z = y then some (Value.int a ta) else m₀ z := by
      funext z
      by_cases h1 : z = x
      · simp [h1]
      · simp only [if_neg h1]
        by_cases h2 : z = y
        · subst h2; simp [ha]
        · simp only [if_neg h2]; exact hm z h1 h2
    rw [e] at F₁
    exact turn n u a ta h tk nw F₁ N₁
  · rintro m₁ h tk ⟨⟨a, ta, ha⟩, hm⟩ F₁ N₁
    refine done m₁ a ta h tk ?_ N₁
    have e : (fun z => if z = x then m₁ z else if z = y then some (Value.int a ta) else m₀ z) = m₁ := by
      funext z
      by_cases h1 : z = x
      · simp [h1]
      · simp only [if_neg h1]
        by_cases h2 : z = y
        · subst h2; simp [ha]
        · simp only [if_neg h2]; exact (hm z h1 h2).symm
    rw [e]; exact F₁
theorem turn_end {h₀ h' : Heap} {L : Addr} {x y : Str} {m₀ m' : Str → Option Value} {nw : Led} {s : Shared} {tk' : Nat} (F : Fr h₀ L h' m') (N : News h₀ L h' nw) (h1 : ∃ a' t', m' y = some (Value.int a' t')) (h2 : ∀ z, z ≠ x → z ≠ y → m' z = m₀ z) :
    TurnEnd h₀ L nw x y m₀ s .next { s with heap := h', toks := tk' } :=
  ⟨rfl, h', tk', m', rfl, F, N, h1, h2⟩
theorem topTup_isTup {K : Frag} {h₀ h : Heap} {L a : Addr} {m : Str → Option Value} {o : Obj} {items : Array Value} {n : Nat}
    (F : Fr h₀ L h m) (X : K.In h₀) (ho : K.lookup a = some o) (hc : o.cls = .type "tuple") (hd : o.data = .seq items n) : IsTup h a items := ⟨o, F.keep _ _ (X _ _ ho), hc, n, hd⟩
end
end Mine
open PySem PySem.W PyProof.Rows
set_option Elab.async false
set_option maxRecDepth 100000
namespace Mine
inductive CA : List Value → List (Option Int) → Prop
  | nil : CA [] []
  | nn {vs cs} : CA vs cs → CA (Value.none :: vs) (Option.none :: cs)
  | ii (n : Int) (t : Tok) {vs cs} : CA vs cs → CA (Value.int n t :: vs) (some n :: cs)
theorem CA.append : ∀ {a b : List Value} {c d : List (Option Int)}, CA a c → CA b d → CA (a ++ b) (c ++ d)
  | _, _, _, _, .nil, h => h
  | _, _, _, _, .nn h', h => .nn (h'.append h)
  | _, _, _, _, .ii n t h', h => .ii n t (h'.append h)
theorem CA.length : ∀ {a : List Value} {c : List (Option Int)}, CA a c → a.length = c.length
  | _, _, .nil => rfl
  | _, _, .nn h => congrArg (· + 1) h.length
  | _, _, .ii _ _ h => congrArg (· + 1) h.length
theorem CA.drop : ∀ {a : List Value} {c : List (Option Int)}, CA a c → ∀ k : Nat, CA (a.drop k) (c.drop k)
  | _, _, h, 0 => h
  | _, _, .nil, _ + 1 => .nil
  | _, _, .nn h, k + 1 => h.drop k
  | _, _, .ii _ _ h, k + 1 => h.drop k
theorem CA.take : ∀ {a : List Value} {c : List (Option Int)}, CA a c → ∀ k : Nat, CA (a.take k) (c.take k)
  | _, _, _, 0 => .nil
  | _, _, .nil, _ + 1 => .nil
  | _, _, .nn h, k + 1 => .nn (h.take k)
  | _, _, .ii n t h, k + 1 => .ii n t (h.take k)
theorem CA.replicate (k : Nat) : CA (List.replicate k Value.none) (List.replicate k Option.none) := by
  induction k with
  | zero => exact .nil
  | succ k ih => exact .nn ih
theorem CA.get : ∀ {a : List Value} {c : List (Option Int)}, CA a c → ∀ (i : Nat) (x : Option Int), c[i]? = some x → ∃ v, a[i]? = some v ∧ CA [v] [x]
  | _, _, .nil, i, x, e => by simp at e
  | _, _, .nn h, 0, x, e => by simp at e; subst e; exact ⟨_, rfl, .nn .nil⟩
  | _, _, .ii n t h, 0, x, e => by simp at e; subst e; exact ⟨_, rfl, .ii n t .nil⟩
  | _, _, .nn h, i + 1, x, e => h.get i x e
  | _, _, .ii n t h, i + 1, x, e => h.get i x e
theorem CA.ofItems {a : Int} : ∀ (vs : List Value) (k : Nat), (∀ j v, vs[j]? = some v → ∃ t, v = Value.int (a + ((k + j : Nat) : Int) * 1) t) → CA vs ((List.range' k vs.length).map fun (i : Nat) => some (a + (i : Int)))
  | [], _, _ => .nil
  | v :: vs, k, h => by
    obtain ⟨t, e⟩ := h 0 v rfl
    subst e
    have := CA.ofItems vs (k + 1) (fun j v hj => by
      obtain ⟨t, e⟩ := h (j + 1) v hj
      exact ⟨t, by rw [e]; congr 2; push_cast; omega⟩)
    simp only [List.length_cons, List.range'_succ, List.map_cons]
    have e : a + ((k + 0 : Nat) : Int) * 1 = a + (k : Int) := by simp
    rw [e]
    exact .ii _ t this
section
variable {prog : Program} {w : World} {A : Around} {E : Value → Shared → Prop} {s : Shared} {h₀ : Heap} {L : Addr} {m : Str → Option Value} {news : Led}
theorem news_lt (N : News h₀ L s.heap news) : ∀ p ∈ news, p.1 < s.heap.objs.size := fun p hp => Heap.lt_size (N p hp).1
theorem news_ne {nw : Led} {a b : Addr} (h : ∀ p ∈ nw, p.1 < a) (e : @LE.le Nat _ a b) : ∀ p ∈ nw, p.1 ≠ b := fun p hp => Nat.ne_of_lt (Nat.lt_of_lt_of_le (h p hp) e)
theorem mulNone {l : Addr} {c : Nat} {x : Int} {u : Tok} {Q : Value → Shared → Prop}
    (F : Fr h₀ L s.heap m) (N : News h₀ L s.heap news) (hm : (l, W.listOf #[.none] c) ∈ news) (h0 : 0 ≤ x) (h1 : x ≤ 1000)
    (h : ∀ D h', Fr h₀ L h' m → News h₀ L h' ((D, W.listOf (List.replicate x.toNat Value.none).toArray 0) :: news) → (∀ p ∈ news, p.1 < D) → Q (.ref D) { s with heap := h' }) :
    wpAny (model prog w) A (binaryOp .Mult (.ref l) (.int x u)) Q E s := by
  refine mul_list F N (N _ hm).1 (by omega) (by omega) (by show 1 * x.toNat ≤ 2 ^ 24; omega) fun h' F' N' => ?_
  rw [listMul_foldl_if] at N'
  have e : (List.replicate x.toNat (#[Value.none] : Array Value).toList).flatten = List.replicate x.toNat Value.none := by
    generalize x.toNat = k
    induction k with
    | zero => rfl
    | succ k ih => rw [List.replicate_succ, List.flatten_cons, ih]; rfl
  rw [e] at N'
  exact h _ h' F' N' (news_lt N)
theorem mulNoneR {l : Addr} {c : Nat} {x : Int} {u : Tok} {Q : Value → Shared → Prop}
    (F : Fr h₀ L s.heap m) (N : News h₀ L s.heap news) (hm : (l, W.listOf #[.none] c) ∈ news) (h0 : 0 ≤ x) (h1 : x ≤ 1000)
    (h : ∀ D h', Fr h₀ L h' m → News h₀ L h' ((D, W.listOf (List.replicate x.toNat Value.none).toArray 0) :: news) → (∀ p ∈ news, p.1 < D) → Q (.ref D) { s with heap := h' }) :
    wpAny (model prog w) A (binaryOp .Mult (.int x u) (.ref l)) Q E s := by
  refine mul_list_r F N (N _ hm).1 (by omega) (by omega) (by show 1 * x.toNat ≤ 2 ^ 24; omega) fun h' F' N' => ?_
  rw [listMul_foldl_if] at N'
  have e : (List.replicate x.toNat (#[Value.none] : Array Value).toList).flatten = List.replicate x.toNat Value.none := by
    generalize x.toNat = k
    induction k with
    | zero => rfl
    | succ k ih => rw [List.replicate_succ, List.flatten_cons, ih]; rfl
  rw [e] at N'
  exact h _ h' F' N' (news_lt N)
theorem addLists {l b : Addr} {xs ys : Array Value} {c d : Nat} {Q : Value → Shared → Prop}
    (F : Fr h₀ L s.heap m) (N : News h₀ L s.heap news) (hl : (l, W.listOf xs c) ∈ news) (hb : (b, W.listOf ys d) ∈ news) (hz : xs.size + ys.size ≤ 1000)
    (h : ∀ D h', Fr h₀ L h' m → News h₀ L h' ((D, W.listOf (xs.toList ++ ys.toList).toArray 0) :: news) → (∀ p ∈ news, p.1 < D) → Q (.ref D) { s with heap := h' }) :
    wpAny (model prog w) A (binaryOp .Add (.ref l) (.ref b)) Q E s := by
  refine add_arrays (hsz := by rw [sizeLine_eq]; omega) F N (News.isList N hl) (News.isList N hb) fun h' F' N' => ?_
  exact h _ h' F' N' (news_lt N)
theorem listRange {r : Addr} {a b : Int} {t u v : Tok} {n : Nat} {Q : Value → Shared → Prop} (hh : A.handled = none)
    (F : Fr h₀ L s.heap m) (N : News h₀ L s.heap news) (hr : IsRange s.heap r a b 1 t u v) (hsmall : Builtin.Range.small a b 1 = true) (hn : Builtin.Range.rangeSize a b 1 = (n : Int)) (hlen : n ≤ 1000)
    (h : ∀ D c vs h' tk, Fr h₀ L h' m → News h₀ L h' ((D, W.listOf vs.toArray c) :: news) → CA vs ((List.range' 0 n).map fun (i : Nat) => some (a + (i : Int))) → (∀ p ∈ news, p.1 < D) → Q (.ref D) { s with heap := h', toks := tk }) :
    wpAny (model prog w) A (call (.type "list") [.ref r]) Q E s := by
  refine call_list_range hh hr hsmall hn (by omega) fun h' tk acc' c' hk hS' hacc => ?_
  have hv : CA acc'.toList ((List.range' 0 n).map fun (i : Nat) => some (a + (i : Int))) := by
    have := CA.ofItems (a := a) acc'.toList 0 (fun j v hj => by
      have := hacc.2 j v (by simpa using hj)
      simpa using this)
    rwa [show acc'.toList.length = n by rw [Array.length_toList]; exact hacc.1] at this
  refine h _ c' acc'.toList h' tk (F.keeps hk) (fun p hp => ?_) hv (news_lt N)
  rcases List.mem_cons.mp hp with rfl | hp
  · refine ⟨hS', Nat.ne_of_gt F.ns.lt, next_is_new F⟩
  · exact ⟨hk _ _ (N p hp).1, (N p hp).2⟩
end
open PyProof.Rows.LCg in
theorem CompRest_ind {prog : Program} {w : World} {A : Around} {h₀ : Heap} {L : Addr} {m : Str → Option Value} {env : Env} {elt : PySem.Expr} {x : Str} {scope : Scope} {cl : List (Str × Addr)} {s : Shared} {S : Led → Prop} {P : Nat → Value → Prop} {Fin : List Value → Led → Prop} {n : Nat}
    (J : Nat → List Value → Led → Prop)
    (step : ∀ i ys news v I oI C oC D m₂ h tk (E' : Value → Shared → Prop), i < n → J i ys news → P i v → NsObj oC m₂ → m₂ x = some v → Fr h₀ L h m → News h₀ L h ((I, oI) :: (C, oC) :: (D, lst ys) :: news) → Off3 I C D news → ((@Ne Nat I C) ∧ (@Ne Nat I D) ∧ (@Ne Nat C D)) →
      wpAny (model prog w) A (eval elt (compEnvC scope cl C env)) (CompEnd h₀ L m { s with heap := h, toks := tk } I oI C oC D (lst ys) S (fun y news' => J (i + 1) (ys ++ [y]) news')) E' { s with heap := h, toks := tk })
    (fin : ∀ ys news, J n ys news → Fin ys news) : ∀ k i ys news, i + k = n → J i ys news → CompRest prog w A h₀ L m env elt x scope cl s S P Fin k i ys news
  | 0, i, ys, news, e, hJ => CompRest.zero (fin ys news (by have e' : i = n := by omega
                                                            subst e'; exact hJ))
  | k + 1, i, ys, news, e, hJ => CompRest.succ fun v I oI C oC D m₂ h tk E' hP hN hx F N off ne =>
      wpAny_mono (step i ys news v I oI C oC D m₂ h tk E' (by omega) hJ hP hN hx F N off ne) (fun y s' z => by
        obtain ⟨h', tk', news', e1, F', N', off', hS, hJ'⟩ := z
        exact ⟨h', tk', news', e1, F', N', off', hS, CompRest_ind J step fin k (i + 1) (ys ++ [y]) news' (by omega) hJ'⟩) fun _ _ z => z
def SrcR7 (prog : Program) (w : World) (A : Around) (h₀ : Heap) (L : Addr) (m : Str → Option Value) (env : Env) (elt : PySem.Expr) (x : Str) (scope : Scope) (cl : List (Str × Addr)) (Q : Value → Shared → Prop) (xv : Value) (s₁ : Shared) : Prop :=
  ∃ r a b c t u v n news, xv = .ref r ∧ A.handled = none ∧ Fr h₀ L s₁.heap m ∧ News h₀ L s₁.heap news ∧ IsRange s₁.heap r a b c t u v ∧ Builtin.Range.small a b c = true ∧ Builtin.Range.rangeSize a b c = ((n : Nat) : Int) ∧ n ≤ sizeLine ∧
      ∀ s₂ : Shared, (∃ h, s₂ = { s₁ with heap := h }) → LCg.CompRest prog w A h₀ L m env elt x scope cl s₂ (fun _ => True) (fun i v => ∃ t, v = .int (a + (i : Int) * c) t) (LCg.FinE h₀ L m s₂ Q) n 0 [] news
open PyProof.Rows.LCg in
theorem ListComp_R {prog : Program} {w : World} {A : Around} {E : Value → Shared → Prop} {s : Shared} {h₀ : Heap} {L : Addr} {m : Str → Option Value} {env : Env} {elt iter : PySem.Expr} {x : Str} {px : Pos} {scope : Scope} {cl : List (Str × Addr)} {pos : Pos} {Q : Value → Shared → Prop} (_F₀ : Fr h₀ L s.heap m)
    (hclos : closureFor scope env = pure cl) (hcell : ∀ y ∈ scope.names, y.2 ≠ .cell) (hkind : scope.kind = .function)
    (hnames : ∀ y ∈ scope.names, y.2 = .local → scope.names.lookup y.1 = some .local) (hx : scope.names.lookup x = some .local)
    (h : wpAny (model prog w) A (eval iter env) (SrcR7 prog w A h₀ L m env elt x scope cl Q) E s)
    (hs : ∀ x, foldedSetIterable iter env x = pure x := by intro _; rfl) :
    wpAny (model prog w) A (eval (.ListComp elt [⟨.Name x px, iter, [], 0⟩] scope pos) env) Q E s := by
  rw [eval_ListComp]
  refine wpAny_comprehension_free (use := none) rfl hs hclos hkind hnames (wpAny_mono h (fun xv s₁ h₁ => ?_) fun _ _ e => e)
  obtain ⟨r, a, b, c, t, u, v, n, news, rfl, hh, F, N, hr, hsm, hn, hsz, R⟩ := h₁
  refine wpAny_pyIter_range hr hsm ?_
  refine block_U (Walks.range hh s₁.heap.objs.size a c n) hsz (fun i h st => ⟨_, st⟩) (S := fun _ => True) ?_ hcell hkind hx ?_ (fun b hb => ?_)
    (F.keeps fun _ _ e => Heap.get?_push_of_some _ e) (N.grown fun _ _ e => Heap.get?_push_of_some _ e) (Nat.ne_of_lt F.ns.lt) (next_is_new F) (fun p hp => Nat.ne_of_lt (Heap.lt_size (N p hp).1)) trivial (R _ ⟨_, rfl⟩) ?_
  · intro i h h' o nw st e e' _ _ _
    have st' : h.get? _ = some _ := st
    show h'.get? _ = some _
    rw [e', ← e]; exact st'
  · show IsRangeIter _ _ _ _ _
    rw [hn]; simpa using Heap.get?_push_size _ rfl
  · rw [List.mem_singleton.mp hb]
    show s₁.heap.objs.size < (s₁.heap.push _).objs.size
    rw [Heap.size_push]; exact Nat.lt_succ_self _
  · intro D C h' tk m' ys news' F' N' o1 hn hC₀ hD₀ hCL hDL hCD offC fin
    refine ⟨m', hn, fun h'' hs'' => fin D h'' tk (F'.change hs'' hCL hC₀) (fun p hp => ?_) o1⟩
    refine ⟨hs''.extBut _ _ ?_ (N' p hp).1, (N' p hp).2⟩
    rcases List.mem_cons.mp hp with rfl | hp
    · exact Ne.symm hCD
    · exact offC p hp
theorem sizeR7 (X : Int) (h0 : 0 ≤ X) : Builtin.Range.rangeSize 0 X 7 = (((X + 6) / 7).toNat : Int) := by
  unfold Builtin.Range.rangeSize
  simp only [show (7 : Int) > 0 by omega, if_true]
  split <;> omega
theorem fitsL (X : Int) (h0 : 0 ≤ X) (h1 : X ≤ 2000) : Builtin.Range.rangeFitsLong X = true := by
  unfold Builtin.Range.rangeFitsLong
  simp only [Bool.and_eq_true, decide_eq_true_eq]
  omega
theorem small7 (X : Int) (h0 : 0 ≤ X) (h1 : X ≤ 1000) : Builtin.Range.small 0 X 7 = true := by
  unfold Builtin.Range.small
  rw [sizeR7 X h0, fitsL 0 (by omega) (by omega), fitsL X h0 (by omega), fitsL 7 (by omega) (by omega), fitsL _ (by omega) (by omega), if_pos (by omega), fitsL _ (by omega) (by omega)]
  simp
def cellsP (lp ml : Nat) : List (Option Int) := List.replicate lp none ++ (List.range' 0 ml).map (fun (i : Nat) => some (1 + (i : Int))) ++ List.replicate 7 none
def rowP (lp ml j : Nat) : List (Option Int) := ((cellsP lp ml).drop (7 * j)).take 7
def nRows (lp ml : Nat) : Nat := (lp + ml + 6) / 7
def RowsIn (made : Led) (R : Addr) (lp ml : Nat) : Prop :=
  ∃ (c : Nat) (rs : List (Addr × List Value)), (R, W.listOf (rs.map fun p => Value.ref p.1).toArray c) ∈ made ∧ (∀ p ∈ rs, (p.1, W.listOf p.2.toArray 0) ∈ made) ∧ rs.length = nRows lp ml ∧ ∀ j r, rs[j]? = some r → CA r.2 (rowP lp ml j)
abbrev CR (w : World) (mean : ExcName → Option Value) (mg mb : Str → Option Value) (k : Nat) (f : Addr) (news : List (Addr × Obj)) (pre : Prop) (vs : List Value) (lp ml : Nat) : Prop :=
  ∀ (dp un : Nat) (gd : Option (List Code)) (cn : Str) (cs : Scope) (a : Addr) (ccd : Value) (cl : List (Str × Addr)) (outer : List Env) (A₀ : Around) (base h₀ : Heap) (L : Addr) (m : Str → Option Value) (s : Shared) (Q E : Value → Shared → Prop),
    Below A₀ base outer h₀ → Fr h₀ L s.heap m → (hd.heap_39 w.params).In h₀ → News h₀ L s.heap news → Top hd.view_39 LO mean mg mb h₀ → cs.kind = .function →
    (pre → dp + k < recursionLimit → un + 8 * k < cLine →
      (∀ (R : Addr) (made : Led) (h' : Heap) (tk' : Nat), Fr h₀ L h' m → News h₀ L h' (made ++ news) → RowsIn made R lp ml → Q (.ref R) { s with heap := h', toks := tk' }) →
      wpAny (model PySem.Challenge.rw_bh0014_01.row.prog w) (ktrTop dp un gd cn cs L a ccd cl outer) (call (.ref f) vs) Q E s)
theorem slice7 (vs : List Value) (i : Nat) (h : 7 * i ≤ vs.length) (a b : Int) (ha : a = 0 + (i : Int) * 7) (hb : b = a + 7) : slicePick vs.toArray (some a) (some b) none = ((vs.drop (7 * i)).take 7).toArray := by
  subst hb; subst ha
  rw [slicePick_plain]
  simp only [Option.elim]
  have e1 : (0 + (i : Int) * 7) = ((7 * i : Nat) : Int) := by push_cast; omega
  have e2 : (0 + (i : Int) * 7 + 7) = ((7 * i + 7 : Nat) : Int) := by push_cast; omega
  rw [e2, e1, clipAt_nat, clipAt_nat]
  have e3 : vs.toArray.size = vs.length := by simp
  rw [e3, Nat.min_eq_left h]
  congr 1
  rcases Nat.le_total (7 * i + 7) vs.length with h1 | h1
  · rw [Nat.min_eq_left h1]; congr 1; omega
  · rw [Nat.min_eq_right h1, List.take_of_length_le (by simp), List.take_of_length_le (by simp; omega)]
theorem mch_pack {g h : Heap} {L Dd : Addr} {vals : Array Value} {a b c d e f cell : Addr × Obj} {news : Led} (N : News g L h ((Dd, W.listOf vals 0) :: a :: b :: c :: d :: e :: f :: cell :: news)) :
    ∃ nw0, News g L h nw0 ∧ (Dd, W.listOf vals 0) ∈ nw0 ∧ cell ∈ nw0 ∧ ∀ p ∈ news, p ∈ nw0 :=
  ⟨_, N, .head _, .tail _ (.tail _ (.tail _ (.tail _ (.tail _ (.tail _ (.tail _ (.head _))))))), fun _ hp => .tail _ (.tail _ (.tail _ (.tail _ (.tail _ (.tail _ (.tail _ (.tail _ hp)))))))⟩
theorem news_two {g h : Heap} {L : Addr} {x y z c d : Addr × Obj} {nw : Led} (N : News g L h (x :: y :: z :: nw)) (hc : c ∈ nw) (hd : d ∈ nw) : News g L h (d :: c :: x :: y :: z :: nw) := fun p hp => by
  rcases List.mem_cons.mp hp with rfl | hp
  · exact N _ (.tail _ (.tail _ (.tail _ hd)))
  rcases List.mem_cons.mp hp with rfl | hp
  · exact N _ (.tail _ (.tail _ (.tail _ hc)))
  · exact N _ hp
theorem ca_cells {lp ml : Nat} {k7 : Nat} {vs : List Value} {k : Int} (hk : k.toNat = ml) (h7 : k7 = 7) (h : CA vs (List.map (fun (i : Nat) => some (1 + (i : Int))) (List.range' 0 k.toNat))) : CA (List.replicate lp Value.none ++ vs ++ List.replicate k7 Value.none) (cellsP lp ml) := by
  subst hk; subst h7
  exact ((CA.replicate lp).append h).append (CA.replicate 7)
def RowsJ (nw0 : Led) (lp ml : Nat) (i : Nat) (ys : List Value) (nw : Led) : Prop :=
  ∃ rs : List (Addr × List Value), ys = rs.map (fun p => Value.ref p.1) ∧ (∀ p ∈ rs, (p.1, W.listOf p.2.toArray 0) ∈ nw) ∧ (∀ p ∈ nw0, p ∈ nw) ∧ rs.length = i ∧ ∀ j r, rs[j]? = some r → CA r.2 (rowP lp ml j)
theorem RowsJ.init (nw0 : Led) (lp ml : Nat) : RowsJ nw0 lp ml 0 [] nw0 := ⟨[], rfl, by simp, fun _ h => h, rfl, by simp⟩
theorem RowsJ.step {nw0 nw : Led} {lp ml i : Nat} {ys row : List Value} {r : Addr} (h : RowsJ nw0 lp ml i ys nw) (hc : CA row (rowP lp ml i)) : RowsJ nw0 lp ml (i + 1) (ys ++ [.ref r]) ((r, W.listOf row.toArray 0) :: nw) := by
  obtain ⟨rs, rfl, hrs, hsub, hlen, hca⟩ := h
  refine ⟨rs ++ [(r, row)], by simp, ?_, fun p hp => .tail _ (hsub p hp), by simp [hlen], ?_⟩
  · intro p hp
    rcases List.mem_append.mp hp with hp | hp
    · exact .tail _ (hrs p hp)
    · rw [List.mem_singleton.mp hp]; exact .head _
  · intro j q hq
    by_cases hj : j < rs.length
    · rw [List.getElem?_append_left hj] at hq
      exact hca j q hq
    · rw [List.getElem?_append_right (by omega)] at hq
      have : j - rs.length = 0 := by
        by_cases h0 : j - rs.length = 0
        · exact h0
        · rw [List.getElem?_eq_none (by simp; omega)] at hq; cases hq
      rw [this] at hq
      simp at hq
      subst hq
      have : j = i := by omega
      subst this
      exact hc
theorem mch_sub {x y z r d c : Addr × Obj} {nw : Led} : ∀ p ∈ x :: y :: z :: r :: nw, p ∈ r :: d :: c :: x :: y :: z :: nw := by
  intro p hp
  simp only [List.mem_cons] at hp ⊢
  rcases hp with h | h | h | h | h <;> simp [h]
theorem RowsJ.fin {h₀ h : Heap} {L D : Addr} {nw0 nw news : Led} {lp ml n : Nat} {ys : List Value} (hJ : RowsJ nw0 lp ml n ys nw) (hn : n = nRows lp ml) (hnews : ∀ p ∈ news, p ∈ nw0) (N : News h₀ L h ((D, LCg.lst ys) :: nw)) :
    News h₀ L h (((D, LCg.lst ys) :: nw) ++ news) ∧ RowsIn ((D, LCg.lst ys) :: nw) D lp ml := by
  obtain ⟨rs, rfl, hrs, hsub, hlen, hca⟩ := hJ
  refine ⟨fun p hp => (List.mem_append.mp hp).elim (N p) fun hp => N p (.tail _ (hsub _ (hnews _ hp))), _, rs, .head _, fun p hp => .tail _ (hrs p hp), hlen.trans hn, hca⟩
end Mine
open PySem PySem.W PyProof.Rows
set_option Elab.async false
set_option maxRecDepth 100000
set_option maxHeartbeats 600000
namespace Mine
local macro_rules | `(tactic| walk_at "eval Call") => `(tactic| (k_here; k_dflt (refine Call_ ?_)))
local macro_rules | `(tactic| walk_at "ite") => `(tactic| (k_here; k_openite; first
  | (refine ite_pos (by (simp only [beq_iff_eq, bne_iff_ne, ne_eq, decide_eq_true_eq]; first | assumption | omega)) ?_; walk_say "P+")
  | (refine ite_neg (by (simp only [beq_iff_eq, bne_iff_ne, ne_eq, decide_eq_true_eq]; first | assumption | omega)) ?_; walk_say "P-")))
local macro_rules | `(tactic| walk_at "compareOp In int ref") => `(tactic| (k_here; k_dflt (refine' in_topK ?k1 ?k2 ?k3 ?k4 ?k5 ?k6 ?_; (case k1 => k_asm); (case k2 => k_asm); (case k3 => k_is); (case k4 => rfl); (case k5 => rfl); (case k6 => l_intsW); k_whole); (first | rw [any4] | rw [any5] | rw [any6])))
theorem mlen (y : Int) (b : Nat) (h : 1 ≤ b ∧ b ≤ 12) (k : Int) (hk : k = if (b : Int) = 2 then (if leapP y = true then 1 else 0) else 0) : [0, 31, 28, 31, 30, 31, 30, 31, 31, 30, 31, 30, 31].getD ((b : Int)).toNat 0 + k = dimG y b := by
  have : b = 1 ∨ b = 2 ∨ b = 3 ∨ b = 4 ∨ b = 5 ∨ b = 6 ∨ b = 7 ∨ b = 8 ∨ b = 9 ∨ b = 10 ∨ b = 11 ∨ b = 12 := by omega
  subst hk
  rcases this with rfl | rfl | rfl | rfl | rfl | rfl | rfl | rfl | rfl | rfl | rfl | rfl <;> first | (simp [dimG]; done) | (cases hL : leapP y <;> simp [dimG, hL])
theorem mlen1 (y : Int) (b : Nat) (h : 1 ≤ b ∧ b ≤ 12) (h2 : (b : Int) = 2) (hl : leapP y = true) : [0, 31, 28, 31, 30, 31, 30, 31, 31, 30, 31, 30, 31].getD ((b : Int)).toNat 0 + 1 = dimG y b := mlen y b h 1 (by rw [if_pos h2, if_pos hl])
theorem mlen2 (y : Int) (b : Nat) (h : 1 ≤ b ∧ b ≤ 12) (h2 : (b : Int) = 2) (hl : leapP y = false) : [0, 31, 28, 31, 30, 31, 30, 31, 31, 30, 31, 30, 31].getD ((b : Int)).toNat 0 + 0 = dimG y b := mlen y b h 0 (by rw [if_pos h2, hl]; rfl)
theorem mlen3 (y : Int) (b : Nat) (h : 1 ≤ b ∧ b ≤ 12) (h2 : ¬ (b : Int) = 2) : [0, 31, 28, 31, 30, 31, 30, 31, 31, 30, 31, 30, 31].getD ((b : Int)).toNat 0 + 0 = dimG y b := mlen y b h 0 (by rw [if_neg h2])
theorem C_monthrange (w : World) (mean : ExcName → Option Value) (mg mb : Str → Option Value) :
    CbC 29 0 (∀ (news : Led) (y : Int) (ty : Tok) (m : Int) (tm : Tok), CT2 w mean mg mb 2 29 news (1 ≤ m ∧ m ≤ 12) [.int y ty, .int m tm] (dimG y m)) := by
  unfold CbC
  dsimp only [CT2]
  k_fill
  intro _ y ty m tm
  intros; rename_i hp _ _ hret
  k_with_none
  have c_isleap := C_isleap w mean mg mb
  dsimp only [CL, CT] at c_isleap
  k_with "call ref" => (k_dflt (refine' (CbC.out c_isleap) _ _ _ _ _ _ _ _ _ _ _ _ _ _ _ _ _ _ _ _ ?k1 ?k2 ?k3 ?k4 ?k5 ?kK ?kp ?kd ?ku ?_); (case k1 => k_asm); (case k2 => k_asm); (case k3 => k_asm); (case k4 => k_asm); (case k5 => k_asm); (case kK => first | exact rfl | assumption); (case kp => (first | trivial | omega | ((try dsimp only); omega) | assumption | l_fact)); (case kd => ktr_room); (case ku => ktr_units); intro t9 h9 tk9 F9 N9; (try dsimp only); (try k_fold))
  obtain ⟨hp1, hp2⟩ := hp
  obtain ⟨b, rfl⟩ : ∃ b : Nat, m = (b : Int) := ⟨m.toNat, by omega⟩
  have hb : b < 13 := by omega
  k_with "subscriptTail" => ((with_reducible show wpAny _ _ (subscriptTail _ _ (Value.ref 15) (Value.ref _)) _ _ _); k_dflt (refine' slice_tuple_upto ?k1 ?k2 (topTup_isTup ?k3 ?k4 ?k5 ?k8 ?k9) ?k6 ?_ (hsz := ?k7); (case k4 => k_asm); (case k5 => k_is); (case k8 => rfl); (case k9 => rfl); (case k1 => k_asm); (case k2 => k_asm); (case k3 => k_asm); (case k6 => exact hb); (case k7 => rw [sizeLine_eq]; decide); k_whole); intro h' F' N' hTup)
  k_with "pyIter ref" => ((with_reducible show wpAny _ _ (pyIter (Value.ref _)) (fun it s₂ => LoopAtV _ _ _ _ _ _ _ _ _ it s₂) _ _); (rename Fr _ _ _ _ => lF'); (rename News _ _ _ _ => lN'); (rename IsTup _ _ _ => hT'); (with_unfolding_all refine' iter_tupF (y := Str.ofString "first") (by rfl) hT' ?hI ?hL lF' lN' (by rfl) (by decide) (fun n' u' a' ta' h' tk' nw' F' N' => ?_) (fun u' a' ta' h' tk' F' N' => ?_)); (case hI => with_unfolding_all exact IntsAre.take (by l_intsW) b); (case hL => exact (lN' _ (List.Mem.head _)).2.1); (all_goals (try clear lF' lN')); (all_goals (try k_fold)))
  have cbI : CbIn 29 := CbIn.mk
  refine wpAny_call ?_
  k_dflt cell_enter
  k_steps
  all_goals first | (refine turn_end (by k_asm) (by k_asm) ⟨_, _, by rfl⟩ ?_; (intro z h1 h2; simp only [h1, h2, if_false]; done)) | (refine' ct2_ret hret ?j1 ?j2 ?j3 ?j4 ?j5 ?j6; (case j1 => k_asm); (case j2 => k_asm); (case j3 => k_mem); (case j4 => kcj_all); (case j5 => first | exact allLt_of (by assumption) | assumption | (rename _ ∧ AllLt _ _ => q9; exact q9.2)); (case j6 => first | exact mlen1 y b (by omega) (by assumption) (by assumption) | exact mlen2 y b (by omega) (by assumption) (by assumption) | exact mlen3 y b (by omega) (by first | assumption | omega)))
theorem C_month_length_gregorian (w : World) (mean : ExcName → Option Value) (mg mb : Str → Option Value) :
    CbC 194 0 (∀ (news : Led) (y : Int) (ty : Tok) (m : Int) (tm : Tok), CL w mean mg mb 3 194 news (1 ≤ m ∧ m ≤ 12) [.int y ty, .int m tm] (fun t => .int (dimG y m) t)) := by
  unfold CbC
  dsimp only [CL, CbRet]
  k_fill
  intro _ y ty m tm
  intros; rename_i hp _ _ hret
  k_with_none
  have c_monthrange := C_monthrange w mean mg mb
  dsimp only [CT2] at c_monthrange
  k_with "call ref" => (k_dflt (refine' (CbC.out c_monthrange) _ _ _ _ _ _ _ _ _ _ _ _ _ _ _ _ _ _ _ _ _ _ ?k1 ?k2 ?k3 ?k4 ?k5 ?kK ?kp ?kd ?ku ?_); (case k1 => k_asm); (case k2 => k_asm); (case k3 => k_asm); (case k4 => k_asm); (case k5 => k_asm); (case kK => first | exact rfl | assumption); (case kp => omega); (case kd => ktr_room); (case ku => ktr_units); intro D9 x9 t91 t92 n9 h9 tk9 F9 N9 l9; (try dsimp only); (try k_fold))
  have cbI : CbIn 194 := CbIn.mk
  refine wpAny_call ?_
  k_dflt cell_enter
  k_steps
  all_goals cb_end hret
end Mine
open PySem PySem.W PyProof.Rows
set_option Elab.async false
set_option maxRecDepth 100000
set_option maxHeartbeats 8000000
namespace Mine
local macro_rules | `(tactic| walk_at "eval Call") => `(tactic| (k_here; k_dflt (refine Call_ ?_)))
local macro_rules | `(tactic| walk_at "ite") => `(tactic| (k_here; k_openite; first
  | (refine ite_pos (by (simp only [beq_iff_eq, bne_iff_ne, ne_eq, decide_eq_true_eq]; first | assumption | omega)) ?_; walk_say "P+")
  | (refine ite_neg (by (simp only [beq_iff_eq, bne_iff_ne, ne_eq, decide_eq_true_eq]; first | assumption | omega)) ?_; walk_say "P-")))
local macro_rules | `(tactic| walk_at "compareOp In int ref") => `(tactic| (k_here; k_dflt (refine' in_topK ?k1 ?k2 ?k3 ?k4 ?k5 ?k6 ?_; (case k1 => k_asm); (case k2 => k_asm); (case k3 => k_is); (case k4 => rfl); (case k5 => rfl); (case k6 => l_intsW); k_whole); (first | rw [any4] | rw [any5] | rw [any6])))
theorem fjM_lt (n : Int) (h : fjE n < 14) : fjM n = fjE n - 1 := if_pos h
theorem fjM_ge (n : Int) (h : ¬ fjE n < 14) : fjM n = fjE n - 13 := if_neg h
theorem fjY_gt (n : Int) {M : Int} (e : fjM n = M) (h : 2 < M) : fjY n = fjC n - 4716 := by unfold fjY; rw [e, if_pos h]
theorem fjY_le (n : Int) {M : Int} (e : fjM n = M) (h : ¬ 2 < M) : fjY n = fjC n - 4715 := by unfold fjY; rw [e, if_neg h]
theorem C_leap_julian (w : World) (mean : ExcName → Option Value) (mg mb : Str → Option Value) :
    CbC 295 0 (∀ (news : Led) (y : Int) (ty : Tok), CL w mean mg mb 1 295 news (True) [.int y ty] (fun _ => .bool (leapJ y))) := by
  unfold CbC
  dsimp only [CL, CbRet]
  k_fill
  intro _ y ty
  intros; rename_i hp _ _ hret
  k_with_none
  k_with "tree" => simp only [leapJ]
  have cbI : CbIn 295 := CbIn.mk
  refine wpAny_call ?_
  k_dflt cell_enter
  k_steps
  all_goals cb_end hret
theorem C_month_length_julian (w : World) (mean : ExcName → Option Value) (mg mb : Str → Option Value) :
    CbC 302 0 (∀ (news : Led) (y : Int) (ty : Tok) (m : Int) (tm : Tok), CL w mean mg mb 2 302 news (True) [.int y ty, .int m tm] (fun t => .int (dimJ y m) t)) := by
  unfold CbC
  dsimp only [CL, CbRet]
  k_fill
  intro _ y ty m tm
  intros; rename_i hp _ _ hret
  k_with_none
  have c_leap_julian := C_leap_julian w mean mg mb
  dsimp only [CL, CT] at c_leap_julian
  k_with "call ref" => (k_dflt (refine' (CbC.out c_leap_julian) _ _ _ _ _ _ _ _ _ _ _ _ _ _ _ _ _ _ _ _ ?k1 ?k2 ?k3 ?k4 ?k5 ?kK ?kp ?kd ?ku ?_); (case k1 => k_asm); (case k2 => k_asm); (case k3 => k_asm); (case k4 => k_asm); (case k5 => k_asm); (case kK => first | exact rfl | assumption); (case kp => (first | trivial | omega | ((try dsimp only); omega) | assumption | l_fact)); (case kd => ktr_room); (case ku => ktr_units); intro t9 h9 tk9 F9 N9; (try dsimp only); (try k_fold))
  k_with "tree" => (simp only [dimJ]; (repeat' split) <;> first | rfl | omega | contradiction | (simp_all; done))
  have cbI : CbIn 302 := CbIn.mk
  have hs : (m = 2 ∧ leapJ y = true) ∨ (m = 2 ∧ leapJ y = false) ∨ (m ≠ 2 ∧ (m = 4 ∨ m = 6 ∨ m = 9 ∨ m = 11)) ∨ (m ≠ 2 ∧ ¬ (m = 4 ∨ m = 6 ∨ m = 9 ∨ m = 11)) := by
    by_cases h2 : m = 2
    · cases hL : leapJ y
      · exact .inr (.inl ⟨h2, rfl⟩)
      · exact .inl ⟨h2, rfl⟩
    · by_cases h4 : m = 4 ∨ m = 6 ∨ m = 9 ∨ m = 11
      · exact .inr (.inr (.inl ⟨h2, h4⟩))
      · exact .inr (.inr (.inr ⟨h2, h4⟩))
  rcases hs with ⟨h2, hL⟩ | ⟨h2, hL⟩ | ⟨h2, h4⟩ | ⟨h2, h4⟩
  all_goals refine wpAny_call ?_
  all_goals k_dflt cell_enter
  all_goals k_steps
  all_goals cb_end hret
theorem C_legal_date_julian (w : World) (mean : ExcName → Option Value) (mg mb : Str → Option Value) :
    CbC 309 0 (∀ (news : Led) (y : Int) (ty : Tok) (m : Int) (tm : Tok) (d : Int) (td : Tok), CL w mean mg mb 3 309 news (1 ≤ m ∧ m ≤ 12 ∧ 1 ≤ d ∧ d ≤ dimJ y m) [.int y ty, .int m tm, .int d td] (fun _ => .bool true)) := by
  unfold CbC
  dsimp only [CL, CbRet]
  k_fill
  intro _ y ty m tm d td
  intros; rename_i hp _ _ hret
  k_with_none
  have c_month_length_julian := C_month_length_julian w mean mg mb
  dsimp only [CL, CT] at c_month_length_julian
  k_with "call ref" => (k_dflt (refine' (CbC.out c_month_length_julian) _ _ _ _ _ _ _ _ _ _ _ _ _ _ _ _ _ _ _ _ _ _ ?k1 ?k2 ?k3 ?k4 ?k5 ?kK ?kp ?kd ?ku ?_); (case k1 => k_asm); (case k2 => k_asm); (case k3 => k_asm); (case k4 => k_asm); (case k5 => k_asm); (case kK => first | exact rfl | assumption); (case kp => (first | trivial | omega | ((try dsimp only); omega) | assumption | l_fact)); (case kd => ktr_room); (case ku => ktr_units); intro t9 h9 tk9 F9 N9; (try dsimp only); (try k_fold))
  have cbI : CbIn 309 := CbIn.mk
  refine wpAny_call ?_
  k_dflt cell_enter
  k_steps
  all_goals cb_end hret
theorem C_to_jd_julian (w : World) (mean : ExcName → Option Value) (mg mb : Str → Option Value) :
    CbC 323 0 (∀ (news : Led) (y : Int) (ty : Tok) (m : Int) (tm : Tok) (d : Int) (td : Tok), CL w mean mg mb 4 323 news (1 ≤ m ∧ m ≤ 12 ∧ 1 ≤ d ∧ d ≤ dimJ y m) [.int y ty, .int m tm, .int d td] (fun t => .int (toJu y m d) t)) := by
  unfold CbC
  dsimp only [CL, CbRet]
  k_fill
  intro _ y ty m tm d td
  intros; rename_i hp _ _ hret
  k_with_none
  have c_legal_date_julian := C_legal_date_julian w mean mg mb
  dsimp only [CL, CT] at c_legal_date_julian
  k_with "call ref" => (k_dflt (refine' (CbC.out c_legal_date_julian) _ _ _ _ _ _ _ _ _ _ _ _ _ _ _ _ _ _ _ _ _ _ _ _ ?k1 ?k2 ?k3 ?k4 ?k5 ?kK ?kp ?kd ?ku ?_); (case k1 => k_asm); (case k2 => k_asm); (case k3 => k_asm); (case k4 => k_asm); (case k5 => k_asm); (case kK => first | exact rfl | assumption); (case kp => (first | trivial | omega | ((try dsimp only); omega) | assumption | l_fact)); (case kd => ktr_room); (case ku => ktr_units); intro t9 h9 tk9 F9 N9; (try dsimp only); (try k_fold))
  k_with "tree" => (simp only [toJu]; (repeat' split) <;> first | rfl | omega | (simp_all; done))
  have cbI : CbIn 323 := CbIn.mk
  refine wpAny_call ?_
  k_dflt cell_enter
  k_steps
  all_goals cb_end hret
theorem C_from_jd_julian (w : World) (mean : ExcName → Option Value) (mg mb : Str → Option Value) :
    CbC 316 0 (∀ (news : Led) (n : Int) (tn : Tok), CT w mean mg mb 1 316 news (2117600 ≤ n ∧ n ≤ 5400000) [.int n tn] (fjY n) (fjM n) (fjD n)) := by
  unfold CbC
  dsimp only [CT]
  k_fill
  intro _ n tn
  intros; rename_i hp _ _ hret
  k_with_none
  have cbI : CbIn 316 := CbIn.mk
  refine wpAny_call ?_
  k_dflt cell_enter
  k_steps
  all_goals ((first | have eM := fjM_lt n (by assumption) | have eM := fjM_ge n (by assumption)); refine' ct_ret hret ?j1 ?j2 ?j3 ?j4 eM.symm rfl; (case j1 => k_asm); (case j2 => k_asm); (case j3 => first | exact allLt_of (by assumption) | assumption); (case j4 => unfold fjY; rw [eM]; first | rfl | (rw [if_pos (by simp only [fjE, fjC]; first | assumption | omega | l_fact)]; rfl) | (rw [if_neg (by simp only [fjE, fjC]; first | assumption | omega | l_fact)]; rfl)))
end Mine
open PySem PySem.W PyProof.Rows
set_option Elab.async false
set_option maxRecDepth 100000
set_option maxHeartbeats 8000000
namespace Mine
local macro_rules | `(tactic| walk_at "eval Call") => `(tactic| (k_here; k_dflt (refine Call_ ?_)))
local macro_rules | `(tactic| walk_at "ite") => `(tactic| (k_here; k_openite; first
  | (refine ite_pos (by (simp only [beq_iff_eq, bne_iff_ne, ne_eq, decide_eq_true_eq]; first | assumption | omega)) ?_; walk_say "P+")
  | (refine ite_neg (by (simp only [beq_iff_eq, bne_iff_ne, ne_eq, decide_eq_true_eq]; first | assumption | omega)) ?_; walk_say "P-")))
local macro_rules | `(tactic| walk_at "compareOp In int ref") => `(tactic| (k_here; k_dflt (refine' in_topK ?k1 ?k2 ?k3 ?k4 ?k5 ?k6 ?_; (case k1 => k_asm); (case k2 => k_asm); (case k3 => k_is); (case k4 => rfl); (case k5 => rfl); (case k6 => l_intsW); k_whole); (first | rw [any4] | rw [any5] | rw [any6])))
theorem fi_min (a b : Int) : (if b < a then b else a) = min a b := by split <;> omega
theorem fiM_lt (n : Int) (h : -(Int.fdiv (-2 * (n - (29 + toI (fiY n) 1 1))) 59) + 1 < 12) : fiM n = -(Int.fdiv (-2 * (n - (29 + toI (fiY n) 1 1))) 59) + 1 := by unfold fiM; omega
theorem fiM_ge (n : Int) (h : ¬ -(Int.fdiv (-2 * (n - (29 + toI (fiY n) 1 1))) 59) + 1 < 12) : fiM n = 12 := by unfold fiM; omega
theorem fiD_of {n M : Int} (eM : fiM n = M) : n - toI (fiY n) M 1 + 1 = fiD n := by unfold fiD; rw [eM]
theorem C_leap_islamic (w : World) (mean : ExcName → Option Value) (mg mb : Str → Option Value) :
    CbC 238 0 (∀ (news : Led) (y : Int) (ty : Tok), CL w mean mg mb 1 238 news (True) [.int y ty] (fun _ => .bool (leapI y))) := by
  unfold CbC
  dsimp only [CL, CbRet]
  k_fill
  intro _ y ty
  intros; rename_i hp _ _ hret
  k_with_none
  k_with "tree" => simp only [leapI]
  have cbI : CbIn 238 := CbIn.mk
  refine wpAny_call ?_
  k_dflt cell_enter
  k_steps
  all_goals cb_end hret
theorem C_month_length_islamic (w : World) (mean : ExcName → Option Value) (mg mb : Str → Option Value) :
    CbC 259 0 (∀ (news : Led) (y : Int) (ty : Tok) (m : Int) (tm : Tok), CL w mean mg mb 2 259 news (True) [.int y ty, .int m tm] (fun t => .int (dimI y m) t)) := by
  unfold CbC
  dsimp only [CL, CbRet]
  k_fill
  intro _ y ty m tm
  intros; rename_i hp _ _ hret
  k_with_none
  have c_leap_islamic := C_leap_islamic w mean mg mb
  dsimp only [CL, CT] at c_leap_islamic
  k_with "call ref" => (k_dflt (refine' (CbC.out c_leap_islamic) _ _ _ _ _ _ _ _ _ _ _ _ _ _ _ _ _ _ _ _ ?k1 ?k2 ?k3 ?k4 ?k5 ?kK ?kp ?kd ?ku ?_); (case k1 => k_asm); (case k2 => k_asm); (case k3 => k_asm); (case k4 => k_asm); (case k5 => k_asm); (case kK => first | exact rfl | assumption); (case kp => (first | trivial | omega | ((try dsimp only); omega) | assumption | l_fact)); (case kd => ktr_room); (case ku => ktr_units); intro t9 h9 tk9 F9 N9; (try dsimp only); (try k_fold))
  k_with "tree" => (simp only [dimI]; (repeat' split) <;> first | rfl | omega | contradiction | (simp_all; done))
  have cbI : CbIn 259 := CbIn.mk
  refine wpAny_call ?_
  k_dflt cell_enter
  k_steps
  all_goals cb_end hret
theorem C_to_jd_islamic (w : World) (mean : ExcName → Option Value) (mg mb : Str → Option Value) :
    CbC 245 0 (∀ (news : Led) (y : Int) (ty : Tok) (m : Int) (tm : Tok) (d : Int) (td : Tok), CL w mean mg mb 1 245 news (True) [.int y ty, .int m tm, .int d td] (fun t => .int (toI y m d) t)) := by
  unfold CbC
  dsimp only [CL, CbRet]
  k_fill
  intro _ y ty m tm d td
  intros; rename_i hp _ _ hret
  k_with_none
  k_with "tree" => (simp only [toI]; (repeat' split) <;> first | rfl | omega | (simp_all; done))
  have cbI : CbIn 245 := CbIn.mk
  refine wpAny_call ?_
  k_dflt cell_enter
  k_steps
  all_goals cb_end hret
theorem C_from_jd_islamic (w : World) (mean : ExcName → Option Value) (mg mb : Str → Option Value) :
    CbC 252 0 (∀ (news : Led) (n : Int) (tn : Tok), CT w mean mg mb 2 252 news (2117600 ≤ n ∧ n ≤ 5400000) [.int n tn] (fiY n) (fiM n) (fiD n)) := by
  unfold CbC
  dsimp only [CT]
  k_fill
  intro _ n tn
  intros; rename_i hp _ _ hret
  k_with_none
  have c_to_jd_islamic := C_to_jd_islamic w mean mg mb
  dsimp only [CL, CT] at c_to_jd_islamic
  k_with "call ref" => (k_dflt (refine' (CbC.out c_to_jd_islamic) _ _ _ _ _ _ _ _ _ _ _ _ _ _ _ _ _ _ _ _ _ _ _ _ ?k1 ?k2 ?k3 ?k4 ?k5 ?kK ?kp ?kd ?ku ?_); (case k1 => k_asm); (case k2 => k_asm); (case k3 => k_asm); (case k4 => k_asm); (case k5 => k_asm); (case kK => first | exact rfl | assumption); (case kp => (first | trivial | omega | ((try dsimp only); omega) | assumption | l_fact)); (case kd => ktr_room); (case ku => ktr_units); intro t9 h9 tk9 F9 N9; (try dsimp only); (try k_fold))
  have cbI : CbIn 252 := CbIn.mk
  refine wpAny_call ?_
  k_dflt cell_enter
  k_steps
  all_goals (refine' ct_ret hret ?j1 ?j2 ?j3 rfl ?j5 ?j6; (case j1 => k_asm); (case j2 => k_asm); (case j3 => first | exact allLt_of (by assumption) | assumption); (case j5 => (show _ = min 12 (-(Int.fdiv (-2 * (n - (29 + toI (fiY n) 1 1))) 59) + 1)); exact fi_min _ _); (case j6 => exact congrArg (fun z => n - toI (fiY n) z 1 + 1) (fi_min _ _)))
end Mine
open PySem PySem.W PyProof.Rows
set_option Elab.async false
set_option maxRecDepth 100000
set_option maxHeartbeats 8000000
namespace Mine
local macro_rules | `(tactic| walk_at "eval Call") => `(tactic| (k_here; k_dflt (refine Call_ ?_)))
local macro_rules | `(tactic| walk_at "ite") => `(tactic| (k_here; k_openite; first
  | (refine ite_pos (by (simp only [beq_iff_eq, bne_iff_ne, ne_eq, decide_eq_true_eq]; first | assumption | omega)) ?_; walk_say "P+")
  | (refine ite_neg (by (simp only [beq_iff_eq, bne_iff_ne, ne_eq, decide_eq_true_eq]; first | assumption | omega)) ?_; walk_say "P-")))
local macro_rules | `(tactic| walk_at "compareOp In int ref") => `(tactic| (k_here; k_dflt (refine' in_topK ?k1 ?k2 ?k3 ?k4 ?k5 ?k6 ?_; (case k1 => k_asm); (case k2 => k_asm); (case k3 => k_is); (case k4 => rfl); (case k5 => rfl); (case k6 => l_intsW); k_whole); (first | rw [any4] | rw [any5] | rw [any6])))
theorem C_is_leap (w : World) (mean : ExcName → Option Value) (mg mb : Str → Option Value) :
    CbC 137 0 (∀ (news : Led) (y : Int) (ty : Tok), CL w mean mg mb 1 137 news (True) [.int y ty] (fun _ => .bool (leapC y))) := by
  unfold CbC
  dsimp only [CL, CbRet]
  k_fill
  intro _ y ty
  intros; rename_i hp _ _ hret
  k_with_none
  k_with "tree" => simp only [leapC]
  have cbI : CbIn 137 := CbIn.mk
  refine wpAny_call ?_
  k_dflt cell_enter
  k_steps
  all_goals cb_end hret
theorem C_month_length_coptic (w : World) (mean : ExcName → Option Value) (mg mb : Str → Option Value) :
    CbC 158 0 (∀ (news : Led) (y : Int) (ty : Tok) (m : Int) (tm : Tok), CL w mean mg mb 2 158 news (m ≤ 13) [.int y ty, .int m tm] (fun t => .int (dimC y m) t)) := by
  unfold CbC
  dsimp only [CL, CbRet]
  k_fill
  intro _ y ty m tm
  intros; rename_i hp _ _ hret
  k_with_none
  have c_is_leap := C_is_leap w mean mg mb
  dsimp only [CL, CT] at c_is_leap
  k_with "call ref" => (k_dflt (refine' (CbC.out c_is_leap) _ _ _ _ _ _ _ _ _ _ _ _ _ _ _ _ _ _ _ _ ?k1 ?k2 ?k3 ?k4 ?k5 ?kK ?kp ?kd ?ku ?_); (case k1 => k_asm); (case k2 => k_asm); (case k3 => k_asm); (case k4 => k_asm); (case k5 => k_asm); (case kK => first | exact rfl | assumption); (case kp => (first | trivial | omega | ((try dsimp only); omega) | assumption | l_fact)); (case kd => ktr_room); (case ku => ktr_units); intro t9 h9 tk9 F9 N9; (try dsimp only); (try k_fold))
  k_with "tree" => (simp only [dimC]; (repeat' split) <;> first | rfl | omega | contradiction | (simp_all; done))
  have cbI : CbIn 158 := CbIn.mk
  refine wpAny_call ?_
  k_dflt cell_enter
  k_steps
  all_goals cb_end hret
theorem C_to_jd_coptic (w : World) (mean : ExcName → Option Value) (mg mb : Str → Option Value) :
    CbC 144 0 (∀ (news : Led) (y : Int) (ty : Tok) (m : Int) (tm : Tok) (d : Int) (td : Tok), CL w mean mg mb 1 144 news (True) [.int y ty, .int m tm, .int d td] (fun t => .int (toC y m d) t)) := by
  unfold CbC
  dsimp only [CL, CbRet]
  k_fill
  intro _ y ty m tm d td
  intros; rename_i hp _ _ hret
  k_with_none
  k_with "tree" => (simp only [toC]; (repeat' split) <;> first | rfl | omega | (simp_all; done))
  have cbI : CbIn 144 := CbIn.mk
  refine wpAny_call ?_
  k_dflt cell_enter
  k_steps
  all_goals cb_end hret
theorem C_from_jd_coptic (w : World) (mean : ExcName → Option Value) (mg mb : Str → Option Value) :
    CbC 151 0 (∀ (news : Led) (n : Int) (tn : Tok), CT w mean mg mb 2 151 news (2117600 ≤ n ∧ n ≤ 5400000) [.int n tn] (fcY n) (fcM n) (fcD n)) := by
  unfold CbC
  dsimp only [CT]
  k_fill
  intro _ n tn
  intros; rename_i hp _ _ hret
  k_with_none
  have c_to_jd_coptic := C_to_jd_coptic w mean mg mb
  dsimp only [CL, CT] at c_to_jd_coptic
  k_with "call ref" => (k_dflt (refine' (CbC.out c_to_jd_coptic) _ _ _ _ _ _ _ _ _ _ _ _ _ _ _ _ _ _ _ _ _ _ _ _ ?k1 ?k2 ?k3 ?k4 ?k5 ?kK ?kp ?kd ?ku ?_); (case k1 => k_asm); (case k2 => k_asm); (case k3 => k_asm); (case k4 => k_asm); (case k5 => k_asm); (case kK => first | exact rfl | assumption); (case kp => (first | trivial | omega | ((try dsimp only); omega) | assumption | l_fact)); (case kd => ktr_room); (case ku => ktr_units); intro t9 h9 tk9 F9 N9; (try dsimp only); (try k_fold))
  have cbI : CbIn 151 := CbIn.mk
  refine wpAny_call ?_
  k_dflt cell_enter
  k_steps
  all_goals (refine' ct_ret hret ?j1 ?j2 ?j3 ?j4 ?j5 ?j6; (case j1 => k_asm); (case j2 => k_asm); (case j3 => first | exact allLt_of (by assumption) | assumption); (all_goals (first | rfl | ((simp only [fcY, fcM, fcD]) <;> (repeat' split) <;> first | rfl | omega))))
end Mine
open PySem PySem.W PyProof.Rows
set_option Elab.async false
set_option maxRecDepth 100000
set_option maxHeartbeats 1500000
namespace Mine
local macro_rules | `(tactic| walk_at "eval Call") => `(tactic| (k_here; k_dflt (refine Call_ ?_)))
local macro_rules | `(tactic| walk_at "ite") => `(tactic| (k_here; k_openite; first
  | (refine ite_pos (by (simp only [beq_iff_eq, bne_iff_ne, ne_eq, decide_eq_true_eq]; first | assumption | omega)) ?_; walk_say "P+")
  | (refine ite_neg (by (simp only [beq_iff_eq, bne_iff_ne, ne_eq, decide_eq_true_eq]; first | assumption | omega)) ?_; walk_say "P-")))
local macro_rules | `(tactic| walk_at "compareOp In int ref") => `(tactic| (k_here; k_dflt (refine' in_topK ?k1 ?k2 ?k3 ?k4 ?k5 ?k6 ?_; (case k1 => k_asm); (case k2 => k_asm); (case k3 => k_is); (case k4 => rfl); (case k5 => rfl); (case k6 => l_intsW); k_whole); (first | rw [any4] | rw [any5] | rw [any6])))
theorem inC_T (y : Int) (h : leapP (y + 78) = true) : inC y = 31 := if_pos h
theorem inC_F (y : Int) (h : leapP (y + 78) = false) : inC y = 30 := if_neg (by rw [h]; exact Bool.false_ne_true)
theorem toN_1 (y m d : Int) (h : m = 1) : inStart y + (d - 1) = toN y m d := by unfold toN; rw [if_pos h]
theorem toN_2 (y m d : Int) {C : Int} (hC : inC y = C) (h : ¬ m = 1) (h8 : 8 ≤ m) : inStart y + C + (if 5 < m - 2 then 5 else m - 2) * 31 + (m - 7) * 30 + (d - 1) = toN y m d := by unfold toN; rw [if_neg h, if_pos h8, hC]
theorem toN_3 (y m d : Int) {C : Int} (hC : inC y = C) (h : ¬ m = 1) (h8 : ¬ 8 ≤ m) : inStart y + C + (if 5 < m - 2 then 5 else m - 2) * 31 + (d - 1) = toN y m d := by unfold toN; rw [if_neg h, if_neg h8, hC, Int.add_zero]
theorem fnC_T (n : Int) (h : leapP (fgY n) = true) : fnC n = 31 := if_pos h
theorem fnC_F (n : Int) (h : leapP (fgY n) = false) : fnC n = 30 := if_neg (by rw [h]; exact Bool.false_ne_true)
theorem fnX_lt (n : Int) {C : Int} (e : fnC n = C) (h : n - toG (fgY n) 1 1 < 80) : fnX n = n - toG (fgY n) 1 1 + (C + 31 * 5 + 30 * 3 + 10 + 80) - 80 := by unfold fnX fnYd; rw [if_pos h, e]
theorem fnX_ge (n : Int) (h : ¬ n - toG (fgY n) 1 1 < 80) : fnX n = n - toG (fgY n) 1 1 - 80 := by unfold fnX fnYd; rw [if_neg h]
theorem fnY_lt (n : Int) (h : n - toG (fgY n) 1 1 < 80) : fnY n = fgY n - 78 - 1 := if_pos h
theorem fnY_ge (n : Int) (h : ¬ n - toG (fgY n) 1 1 < 80) : fnY n = fgY n - 78 := if_neg h
theorem fnMD_1 (n : Int) {C X : Int} (e : fnC n = C) (f : fnX n = X) (h : X < C) : fnM n = 1 ∧ fnD n = X + 1 := by unfold fnM fnD; rw [e, f, if_pos h, if_pos h]; exact ⟨rfl, rfl⟩
theorem fnMD_2 (n : Int) {C X : Int} (e : fnC n = C) (f : fnX n = X) (h : ¬ X < C) (h2 : X - C < 31 * 5) : fnM n = Int.fdiv (X - C) 31 + 2 ∧ fnD n = Int.fmod (X - C) 31 + 1 := by unfold fnM fnD; rw [e, f, if_neg h, if_neg h, if_pos h2, if_pos h2]; exact ⟨rfl, rfl⟩
theorem fnMD_3 (n : Int) {C X : Int} (e : fnC n = C) (f : fnX n = X) (h : ¬ X < C) (h2 : ¬ X - C < 31 * 5) : fnM n = Int.fdiv (X - C - 31 * 5) 30 + 7 ∧ fnD n = Int.fmod (X - C - 31 * 5) 30 + 1 := by unfold fnM fnD; rw [e, f, if_neg h, if_neg h, if_neg h2, if_neg h2]; exact ⟨rfl, rfl⟩
theorem C_month_length_indian_civil (w : World) (mean : ExcName → Option Value) (mg mb : Str → Option Value) :
    CbC 223 0 (∀ (news : Led) (y : Int) (ty : Tok) (m : Int) (tm : Tok), CL w mean mg mb 2 223 news (True) [.int y ty, .int m tm] (fun t => .int (dimN y m) t)) := by
  unfold CbC
  dsimp only [CL, CbRet]
  k_fill
  intro _ y ty m tm
  intros; rename_i hp _ _ hret
  k_with_none
  have c_isleap := C_isleap w mean mg mb
  dsimp only [CL, CT] at c_isleap
  k_with "call ref" => (k_dflt (refine' (CbC.out c_isleap) _ _ _ _ _ _ _ _ _ _ _ _ _ _ _ _ _ _ _ _ ?k1 ?k2 ?k3 ?k4 ?k5 ?kK ?kp ?kd ?ku ?_); (case k1 => k_asm); (case k2 => k_asm); (case k3 => k_asm); (case k4 => k_asm); (case k5 => k_asm); (case kK => first | exact rfl | assumption); (case kp => (first | trivial | omega | ((try dsimp only); omega) | assumption | l_fact)); (case kd => ktr_room); (case ku => ktr_units); intro t9 h9 tk9 F9 N9; (try dsimp only); (try k_fold))
  k_with "tree" => (simp only [dimN]; (repeat' split) <;> first | rfl | omega | contradiction | (simp_all; done))
  have cbI : CbIn 223 := CbIn.mk
  refine wpAny_call ?_
  k_dflt cell_enter
  k_steps
  all_goals cb_end hret
theorem C_to_jd_indian_civil (w : World) (mean : ExcName → Option Value) (mg mb : Str → Option Value) :
    CbC 209 0 (∀ (news : Led) (y : Int) (ty : Tok) (m : Int) (tm : Tok) (d : Int) (td : Tok), CL w mean mg mb 4 209 news (True) [.int y ty, .int m tm, .int d td] (fun t => .int (toN y m d) t)) := by
  unfold CbC
  dsimp only [CL, CbRet]
  k_fill
  intro _ y ty m tm d td
  intros; rename_i hp _ _ hret
  k_with_none
  have c_to_jd_gregorian := C_to_jd_gregorian w mean mg mb
  dsimp only [CL, CT] at c_to_jd_gregorian
  have c_isleap := C_isleap w mean mg mb
  dsimp only [CL, CT] at c_isleap
  k_with "call ref" => (k_dflt (refine' (CbC.out c_to_jd_gregorian) _ _ _ _ _ _ _ _ _ _ _ _ _ _ _ _ _ _ _ _ _ _ _ _ ?k1 ?k2 ?k3 ?k4 ?k5 ?kK ?kp ?kd ?ku ?_); (case k1 => k_asm); (case k2 => k_asm); (case k3 => k_asm); (case k4 => k_asm); (case k5 => k_asm); (case kK => first | exact rfl | assumption); (case kp => (first | omega | (refine ⟨by omega, by omega, ?_, ?_⟩ <;> (try split) <;> omega) | (exact fgM_pre2 (by split <;> omega)))); (case kd => ktr_room); (case ku => ktr_units); intro t9 h9 tk9 F9 N9; (try dsimp only); (try k_fold))
  k_with "call ref" => (k_dflt (refine' (CbC.out c_isleap) _ _ _ _ _ _ _ _ _ _ _ _ _ _ _ _ _ _ _ _ ?k1 ?k2 ?k3 ?k4 ?k5 ?kK ?kp ?kd ?ku ?_); (case k1 => k_asm); (case k2 => k_asm); (case k3 => k_asm); (case k4 => k_asm); (case k5 => k_asm); (case kK => first | exact rfl | assumption); (case kp => (first | trivial | omega | ((try dsimp only); omega) | assumption | l_fact)); (case kd => ktr_room); (case ku => ktr_units); intro t9 h9 tk9 F9 N9; (try dsimp only); (try k_fold))
  k_with "tree" => (first | exact toN_1 y m d (by assumption) | ((first | have eC := inC_T y (by assumption) | have eC := inC_F y (by assumption)); first | exact toN_2 y m d eC (by assumption) (by assumption) | exact toN_3 y m d eC (by assumption) (by assumption)))
  have cbI : CbIn 209 := CbIn.mk
  refine wpAny_call ?_
  k_dflt cell_enter
  k_steps
  all_goals cb_end hret
theorem C_from_jd_indian_civil (w : World) (mean : ExcName → Option Value) (mg mb : Str → Option Value) :
    CbC 216 0 (∀ (news : Led) (n : Int) (tn : Tok), CT w mean mg mb 5 216 news (2117600 ≤ n ∧ n ≤ 5400000) [.int n tn] (fnY n) (fnM n) (fnD n)) := by
  unfold CbC
  dsimp only [CT]
  k_fill
  intro _ n tn
  intros; rename_i hp _ _ hret
  k_with_none
  have c_to_jd_gregorian := C_to_jd_gregorian w mean mg mb
  dsimp only [CL, CT] at c_to_jd_gregorian
  have c_isleap := C_isleap w mean mg mb
  dsimp only [CL, CT] at c_isleap
  have c_from_jd_gregorian := C_from_jd_gregorian w mean mg mb
  dsimp only [CL, CT] at c_from_jd_gregorian
  k_with "call ref" => (k_dflt (refine' (CbC.out c_to_jd_gregorian) _ _ _ _ _ _ _ _ _ _ _ _ _ _ _ _ _ _ _ _ _ _ _ _ ?k1 ?k2 ?k3 ?k4 ?k5 ?kK ?kp ?kd ?ku ?_); (case k1 => k_asm); (case k2 => k_asm); (case k3 => k_asm); (case k4 => k_asm); (case k5 => k_asm); (case kK => first | exact rfl | assumption); (case kp => (first | trivial | omega | ((try dsimp only); omega) | assumption | l_fact)); (case kd => ktr_room); (case ku => ktr_units); intro t9 h9 tk9 F9 N9; (try dsimp only); (try k_fold))
  k_with "call ref" => (k_dflt (refine' (CbC.out c_isleap) _ _ _ _ _ _ _ _ _ _ _ _ _ _ _ _ _ _ _ _ ?k1 ?k2 ?k3 ?k4 ?k5 ?kK ?kp ?kd ?ku ?_); (case k1 => k_asm); (case k2 => k_asm); (case k3 => k_asm); (case k4 => k_asm); (case k5 => k_asm); (case kK => first | exact rfl | assumption); (case kp => (first | trivial | omega | ((try dsimp only); omega) | assumption | l_fact)); (case kd => ktr_room); (case ku => ktr_units); intro t9 h9 tk9 F9 N9; (try dsimp only); (try k_fold))
  k_with "call ref" => (k_dflt (refine' (CbC.out c_from_jd_gregorian) _ _ _ _ _ _ _ _ _ _ _ _ _ _ _ _ _ _ _ _ ?k1 ?k2 ?k3 ?k4 ?k5 ?kK ?kp ?kd ?ku ?_); (case k1 => k_asm); (case k2 => k_asm); (case k3 => k_asm); (case k4 => k_asm); (case k5 => k_asm); (case kK => first | exact rfl | assumption); (case kp => (first | trivial | omega | ((try dsimp only); omega) | assumption | l_fact)); (case kd => ktr_room); (case ku => ktr_units); intro D9 t91 t92 t93 n9 h9 tk9 F9 N9 l9; (try dsimp only); (try k_fold))
  have cbI : CbIn 216 := CbIn.mk
  refine wpAny_call ?_
  k_dflt cell_enter
  k_steps
  all_goals ((first | have eC := fnC_T n (by with_reducible assumption) | have eC := fnC_F n (by with_reducible assumption)); (first | (have eX := fnX_lt n eC (by with_reducible assumption); have eY := fnY_lt n (by with_reducible assumption)) | (have eX := fnX_ge n (by with_reducible assumption); have eY := fnY_ge n (by with_reducible assumption))); (first | have eM := fnMD_1 n eC eX (by with_reducible assumption) | have eM := fnMD_2 n eC eX (by with_reducible assumption) (by with_reducible assumption) | have eM := fnMD_3 n eC eX (by with_reducible assumption) (by with_reducible assumption)); refine' ct_retM hret ?j1 ?j2 ?j3 ?j4 ?j5 eY.symm eM.1.symm eM.2.symm; (case j1 => k_asm); (case j2 => k_asm); (case j3 => exact List.Mem.head _); (case j4 => (intro p9 hp9; kcj_m)); (case j5 => (rename _ ∧ AllLt _ _ => q9; exact q9.2)))
end Mine
open PySem PySem.W PyProof.Rows
set_option Elab.async false
set_option maxRecDepth 100000
set_option maxHeartbeats 8000000
namespace Mine
local macro_rules | `(tactic| walk_at "eval Call") => `(tactic| (k_here; k_dflt (refine Call_ ?_)))
local macro_rules | `(tactic| walk_at "ite") => `(tactic| (k_here; k_openite; first
  | (refine ite_pos (by (simp only [beq_iff_eq, bne_iff_ne, ne_eq, decide_eq_true_eq]; first | assumption | omega)) ?_; walk_say "P+")
  | (refine ite_neg (by (simp only [beq_iff_eq, bne_iff_ne, ne_eq, decide_eq_true_eq]; first | assumption | omega)) ?_; walk_say "P-")))
local macro_rules | `(tactic| walk_at "compareOp In int ref") => `(tactic| (k_here; k_dflt (refine' in_topK ?k1 ?k2 ?k3 ?k4 ?k5 ?k6 ?_; (case k1 => k_asm); (case k2 => k_asm); (case k3 => k_is); (case k4 => rfl); (case k5 => rfl); (case k6 => l_intsW); k_whole); (first | rw [any4] | rw [any5] | rw [any6])))
theorem leapA_1 (y : Int) (h : y < 533) : false = leapA y := by simp [leapA, h]
theorem leapA_2 (y : Int) (h : ¬ y < 533) : (Int.fmod y 4 == 0) = leapA y := by rw [Bool.eq_iff_iff]; simp [leapA, h]
theorem trunc_1 (a b : Int) (h : 0 ≤ a) (hb : 0 < b) : Int.fdiv (if a < 0 then -a else a) (if b < 0 then -b else b) = Int.fdiv a b := by rw [if_neg (by omega), if_neg (by omega)]
theorem trunc_2 (a b : Int) (h : 0 ≤ a) (hb : 0 < b) : (decide (a < 0) == decide (b < 0)) = true := by rw [decide_eq_false (by omega), decide_eq_false (by omega)]; rfl
theorem C_trunc4 (w : World) (mean : ExcName → Option Value) (mg mb : Str → Option Value) :
    CbC 36 0 (∀ (news : Led) (a : Int) (ta : Tok) (tb : Tok), CL w mean mg mb 1 36 news (0 ≤ a) [.int a ta, .int 4 tb] (fun t => .int (Int.fdiv a 4) t)) := by
  unfold CbC
  dsimp only [CL, CbRet]
  k_fill
  intro _ a ta tb
  intros; rename_i hp _ _ hret
  k_with_none
  k_with "tree" => (first | exact trunc_1 a 4 hp (by decide) | (have q9 := trunc_2 a 4 hp (by decide); exfalso; simp_all; done))
  have cbI : CbIn 36 := CbIn.mk
  refine wpAny_call ?_
  k_dflt cell_enter
  k_steps
  all_goals cb_end hret
theorem C_trunc30 (w : World) (mean : ExcName → Option Value) (mg mb : Str → Option Value) :
    CbC 36 0 (∀ (news : Led) (a : Int) (ta : Tok) (tb : Tok), CL w mean mg mb 1 36 news (0 ≤ a) [.int a ta, .int 30 tb] (fun t => .int (Int.fdiv a 30) t)) := by
  unfold CbC
  dsimp only [CL, CbRet]
  k_fill
  intro _ a ta tb
  intros; rename_i hp _ _ hret
  k_with_none
  k_with "tree" => (first | exact trunc_1 a 30 hp (by decide) | (have q9 := trunc_2 a 30 hp (by decide); exfalso; simp_all; done))
  have cbI : CbIn 36 := CbIn.mk
  refine wpAny_call ?_
  k_dflt cell_enter
  k_steps
  all_goals cb_end hret
theorem C_trunc365 (w : World) (mean : ExcName → Option Value) (mg mb : Str → Option Value) :
    CbC 36 0 (∀ (news : Led) (a : Int) (ta : Tok) (tb : Tok), CL w mean mg mb 1 36 news (0 ≤ a) [.int a ta, .int 365 tb] (fun t => .int (Int.fdiv a 365) t)) := by
  unfold CbC
  dsimp only [CL, CbRet]
  k_fill
  intro _ a ta tb
  intros; rename_i hp _ _ hret
  k_with_none
  k_with "tree" => (first | exact trunc_1 a 365 hp (by decide) | (have q9 := trunc_2 a 365 hp (by decide); exfalso; simp_all; done))
  have cbI : CbIn 36 := CbIn.mk
  refine wpAny_call ?_
  k_dflt cell_enter
  k_steps
  all_goals cb_end hret
theorem C_trunc1461 (w : World) (mean : ExcName → Option Value) (mg mb : Str → Option Value) :
    CbC 36 0 (∀ (news : Led) (a : Int) (ta : Tok) (tb : Tok), CL w mean mg mb 1 36 news (0 ≤ a) [.int a ta, .int 1461 tb] (fun t => .int (Int.fdiv a 1461) t)) := by
  unfold CbC
  dsimp only [CL, CbRet]
  k_fill
  intro _ a ta tb
  intros; rename_i hp _ _ hret
  k_with_none
  k_with "tree" => (first | exact trunc_1 a 1461 hp (by decide) | (have q9 := trunc_2 a 1461 hp (by decide); exfalso; simp_all; done))
  have cbI : CbIn 36 := CbIn.mk
  refine wpAny_call ?_
  k_dflt cell_enter
  k_steps
  all_goals cb_end hret
theorem C_leap_armenian (w : World) (mean : ExcName → Option Value) (mg mb : Str → Option Value) :
    CbC 98 0 (∀ (news : Led) (y : Int) (ty : Tok), CL w mean mg mb 1 98 news (True) [.int y ty] (fun _ => .bool (leapA y))) := by
  unfold CbC
  dsimp only [CL, CbRet]
  k_fill
  intro _ y ty
  intros; rename_i hp _ _ hret
  k_with_none
  k_with "tree" => (first | exact leapA_1 y (by assumption) | exact leapA_2 y (by assumption))
  have cbI : CbIn 98 := CbIn.mk
  refine wpAny_call ?_
  k_dflt cell_enter
  k_steps
  all_goals cb_end hret
theorem C_valid_date (w : World) (mean : ExcName → Option Value) (mg mb : Str → Option Value) :
    CbC 91 0 (∀ (news : Led) (y : Int) (ty : Tok) (m : Int) (tm : Tok) (d : Int) (td : Tok), CL w mean mg mb 2 91 news (1 ≤ m ∧ m ≤ 13 ∧ 1 ≤ y ∧ 1 ≤ d ∧ d ≤ 30 ∧ (m = 13 → d ≤ 5)) [.int y ty, .int m tm, .int d td, .none] (fun _ => .bool true)) := by
  unfold CbC
  dsimp only [CL, CbRet]
  k_fill
  intro _ y ty m tm d td
  intros; rename_i hp _ _ hret
  k_with_none
  have cbI : CbIn 91 := CbIn.mk
  refine wpAny_call ?_
  k_dflt (refine' code_def ?k1 ?k2 ?k3 ?k4 ?k5 ?kA ?kF ?kK ?k6 ?k7 ?k8 ?k9 ?kB ?_ ?c2 ?c3 ?c4 ?c5; (case kA => exact rfl); (case kF => exact rfl); (case kK => assumption); (case k1 => k_asm); (case k2 => k_asm); (case k3 => k_asm); (case k4 => k_asm); (case k5 => k_asm); (case k6 => k_is); (case k7 => k_is); (case k8 => ktr_room); (case k9 => exact binds_K (by k_in) rfl (by k_is) rfl rfl rfl); (case c5 => decide); (case kB => exact locs rfl); (case c2 => exact rfl); (case c3 => exact rfl); (case c4 => exact rfl); k_whole; intro g' L' h' FG' F' N' B' X' T'; (try dsimp only); (try k_lift B'); (try k_fold))
  k_steps
  all_goals cb_end hret
theorem C_valid_dateS (w : World) (mean : ExcName → Option Value) (mg mb : Str → Option Value) :
    CbC 91 0 (∀ (news : Led) (y : Int) (ty : Tok) (m : Int) (tm : Tok) (d : Int) (td : Tok) (tme : Tok), CL w mean mg mb 2 91 news (1 ≤ m ∧ m ≤ 13 ∧ 533 ≤ y ∧ 1 ≤ d ∧ d ≤ 30 ∧ (m = 13 → d ≤ 5 ∨ (d = 6 ∧ leapA y = true))) [.int y ty, .int m tm, .int d td, .str (Str.ofString "sarkawag") tme] (fun _ => .bool true)) := by
  unfold CbC
  dsimp only [CL, CbRet]
  k_fill
  intro _ y ty m tm d td tme
  intros; rename_i hp _ _ hret
  k_with_none
  have c_leap_armenian := C_leap_armenian w mean mg mb
  dsimp only [CL, CT] at c_leap_armenian
  k_with "call ref" => (k_dflt (refine' (CbC.out c_leap_armenian) _ _ _ _ _ _ _ _ _ _ _ _ _ _ _ _ _ _ _ _ ?k1 ?k2 ?k3 ?k4 ?k5 ?kK ?kp ?kd ?ku ?_); (case k1 => k_asm); (case k2 => k_asm); (case k3 => k_asm); (case k4 => k_asm); (case k5 => k_asm); (case kK => first | exact rfl | assumption); (case kp => (first | trivial | omega | ((try dsimp only); omega) | assumption | l_fact)); (case kd => ktr_room); (case ku => ktr_units); intro t9 h9 tk9 F9 N9; (try dsimp only); (try k_fold))
  have cbI : CbIn 91 := CbIn.mk
  have hs : (m = 13 ∧ leapA y = true ∧ d ≤ 6) ∨ (m = 13 ∧ leapA y = false ∧ d ≤ 5) ∨ m ≠ 13 := by
    by_cases h2 : m = 13
    · cases hL : leapA y
      · exact .inr (.inl ⟨h2, rfl, (hp.2.2.2.2.2 h2).elim id (fun q => by rw [hL] at q; exact absurd q.2 Bool.false_ne_true)⟩)
      · exact .inl ⟨h2, rfl, (hp.2.2.2.2.2 h2).elim (fun q => by omega) (fun q => by omega)⟩
    · exact .inr (.inr h2)
  rcases hs with ⟨h2, hL, h3⟩ | ⟨h2, hL, h3⟩ | h2
  all_goals refine wpAny_call ?_
  all_goals k_dflt (refine' code_def ?k1 ?k2 ?k3 ?k4 ?k5 ?kA ?kF ?kK ?k6 ?k7 ?k8 ?k9 ?kB ?_ ?c2 ?c3 ?c4 ?c5; (case kA => exact rfl); (case kF => exact rfl); (case kK => assumption); (case k1 => k_asm); (case k2 => k_asm); (case k3 => k_asm); (case k4 => k_asm); (case k5 => k_asm); (case k6 => k_is); (case k7 => k_is); (case k8 => ktr_room); (case k9 => exact binds_K (by k_in) rfl (by k_is) rfl rfl rfl); (case c5 => decide); (case kB => exact locs rfl); (case c2 => exact rfl); (case c3 => exact rfl); (case c4 => exact rfl); k_whole; intro g' L' h' FG' F' N' B' X' T'; (try dsimp only); (try k_lift B'); (try k_fold))
  all_goals k_steps
  all_goals cb_end hret
theorem fsVY_1 (n : Int) (h : fsT n = 0) (h4 : Int.fmod (fsU n) 4 = 0) : fsV n = 366 ∧ fsY n = fsU n - 1 + 533 := by unfold fsV fsY; rw [if_pos h, if_pos h, if_pos h4]; exact ⟨rfl, rfl⟩
theorem fsVY_2 (n : Int) (h : fsT n = 0) (h4 : ¬ Int.fmod (fsU n) 4 = 0) : fsV n = 365 ∧ fsY n = fsU n - 1 + 533 := by unfold fsV fsY; rw [if_pos h, if_pos h, if_neg h4]; exact ⟨rfl, rfl⟩
theorem fsVY_3 (n : Int) (h : ¬ fsT n = 0) : fsV n = fsT n ∧ fsY n = fsU n + 533 := by unfold fsV fsY; rw [if_neg h, if_neg h]; exact ⟨rfl, rfl⟩
theorem fsMD (n : Int) {V : Int} (e : fsV n = V) : Int.fdiv (V - 1) 30 + 1 = fsM n ∧ V - 30 * Int.fdiv (V - 1) 30 = fsD n := by unfold fsM fsD; rw [e]; exact ⟨rfl, rfl⟩
theorem C_to_jd_armenian (w : World) (mean : ExcName → Option Value) (mg mb : Str → Option Value) :
    CbC 106 0 (∀ (news : Led) (y : Int) (ty : Tok) (m : Int) (tm : Tok) (d : Int) (td : Tok), CL w mean mg mb 3 106 news (1 ≤ m ∧ m ≤ 13 ∧ 1 ≤ y ∧ 1 ≤ d ∧ d ≤ 30 ∧ (m = 13 → d ≤ 5)) [.int y ty, .int m tm, .int d td, .none] (fun t => .int (toA y m d) t)) := by
  unfold CbC
  dsimp only [CL, CbRet]
  k_fill
  intro _ y ty m tm d td
  intros; rename_i hp _ _ hret
  k_with_none
  have c_valid_date := C_valid_date w mean mg mb
  dsimp only [CL, CT] at c_valid_date
  k_with "call ref" => (k_dflt (refine' (CbC.out c_valid_date) _ _ _ _ _ _ _ _ _ _ _ _ _ _ _ _ _ _ _ _ _ _ _ _ ?k1 ?k2 ?k3 ?k4 ?k5 ?kK ?kp ?kd ?ku ?_); (case k1 => k_asm); (case k2 => k_asm); (case k3 => k_asm); (case k4 => k_asm); (case k5 => k_asm); (case kK => first | exact rfl | assumption); (case kp => (first | trivial | omega | ((try dsimp only); omega) | assumption | l_fact)); (case kd => ktr_room); (case ku => ktr_units); intro t9 h9 tk9 F9 N9; (try dsimp only); (try k_fold))
  k_with "tree" => (simp only [toA]; (repeat' split) <;> first | rfl | omega | (simp_all; done))
  have cbI : CbIn 106 := CbIn.mk
  refine wpAny_call ?_
  k_dflt (refine' code_def ?k1 ?k2 ?k3 ?k4 ?k5 ?kA ?kF ?kK ?k6 ?k7 ?k8 ?k9 ?kB ?_ ?c2 ?c3 ?c4 ?c5; (case kA => exact rfl); (case kF => exact rfl); (case kK => assumption); (case k1 => k_asm); (case k2 => k_asm); (case k3 => k_asm); (case k4 => k_asm); (case k5 => k_asm); (case k6 => k_is); (case k7 => k_is); (case k8 => ktr_room); (case k9 => exact binds_K (by k_in) rfl (by k_is) rfl rfl rfl); (case c5 => decide); (case kB => exact locs rfl); (case c2 => exact rfl); (case c3 => exact rfl); (case c4 => exact rfl); k_whole; intro g' L' h' FG' F' N' B' X' T'; (try dsimp only); (try k_lift B'); (try k_fold))
  k_steps
  all_goals cb_end hret
theorem C_to_jd_armenian3 (w : World) (mean : ExcName → Option Value) (mg mb : Str → Option Value) :
    CbC 106 0 (∀ (news : Led) (y : Int) (ty : Tok) (m : Int) (tm : Tok) (d : Int) (td : Tok), CL w mean mg mb 3 106 news (1 ≤ m ∧ m ≤ 13 ∧ 1 ≤ y ∧ 1 ≤ d ∧ d ≤ 30 ∧ (m = 13 → d ≤ 5)) [.int y ty, .int m tm, .int d td] (fun t => .int (toA y m d) t)) := by
  unfold CbC
  dsimp only [CL, CbRet]
  k_fill
  intro _ y ty m tm d td
  intros; rename_i hp _ _ hret
  k_with_none
  have c_valid_date := C_valid_date w mean mg mb
  dsimp only [CL, CT] at c_valid_date
  k_with "call ref" => (k_dflt (refine' (CbC.out c_valid_date) _ _ _ _ _ _ _ _ _ _ _ _ _ _ _ _ _ _ _ _ _ _ _ _ ?k1 ?k2 ?k3 ?k4 ?k5 ?kK ?kp ?kd ?ku ?_); (case k1 => k_asm); (case k2 => k_asm); (case k3 => k_asm); (case k4 => k_asm); (case k5 => k_asm); (case kK => first | exact rfl | assumption); (case kp => (first | trivial | omega | ((try dsimp only); omega) | assumption | l_fact)); (case kd => ktr_room); (case ku => ktr_units); intro t9 h9 tk9 F9 N9; (try dsimp only); (try k_fold))
  k_with "tree" => (simp only [toA]; (repeat' split) <;> first | rfl | omega | (simp_all; done))
  have cbI : CbIn 106 := CbIn.mk
  refine wpAny_call ?_
  k_dflt (refine' code_def ?k1 ?k2 ?k3 ?k4 ?k5 ?kA ?kF ?kK ?k6 ?k7 ?k8 ?k9 ?kB ?_ ?c2 ?c3 ?c4 ?c5; (case kA => exact rfl); (case kF => exact rfl); (case kK => assumption); (case k1 => k_asm); (case k2 => k_asm); (case k3 => k_asm); (case k4 => k_asm); (case k5 => k_asm); (case k6 => k_is); (case k7 => k_is); (case k8 => ktr_room); (case k9 => exact binds_K (by k_in) rfl (by k_is) rfl rfl rfl); (case c5 => decide); (case kB => exact locs rfl); (case c2 => exact rfl); (case c3 => exact rfl); (case c4 => exact rfl); k_whole; intro g' L' h' FG' F' N' B' X' T'; (try dsimp only); (try k_lift B'); (try k_fold))
  k_steps
  all_goals cb_end hret
theorem C_to_jd_armenianS (w : World) (mean : ExcName → Option Value) (mg mb : Str → Option Value) :
    CbC 106 0 (∀ (news : Led) (y : Int) (ty : Tok) (m : Int) (tm : Tok) (d : Int) (td : Tok) (tme : Tok), CL w mean mg mb 3 106 news (1 ≤ m ∧ m ≤ 13 ∧ 533 ≤ y ∧ 1 ≤ d ∧ d ≤ 30 ∧ (m = 13 → d ≤ 5 ∨ (d = 6 ∧ leapA y = true))) [.int y ty, .int m tm, .int d td, .str (Str.ofString "sarkawag") tme] (fun t => .int (toS y m d) t)) := by
  unfold CbC
  dsimp only [CL, CbRet]
  k_fill
  intro _ y ty m tm d td tme
  intros; rename_i hp _ _ hret
  k_with_none
  have c_valid_dateS := C_valid_dateS w mean mg mb
  dsimp only [CL, CT] at c_valid_dateS
  have c_trunc4 := C_trunc4 w mean mg mb
  dsimp only [CL, CT] at c_trunc4
  k_with "call ref" => (k_dflt (refine' (CbC.out c_valid_dateS) _ _ _ _ _ _ _ _ _ _ _ _ _ _ _ _ _ _ _ _ _ _ _ _ _ ?k1 ?k2 ?k3 ?k4 ?k5 ?kK ?kp ?kd ?ku ?_); (case k1 => k_asm); (case k2 => k_asm); (case k3 => k_asm); (case k4 => k_asm); (case k5 => k_asm); (case kK => first | exact rfl | assumption); (case kp => assumption); (case kd => ktr_room); (case ku => ktr_units); intro t9 h9 tk9 F9 N9; (try dsimp only); (try k_fold))
  k_with "call ref" => (k_dflt (refine' (CbC.out c_trunc4) _ _ _ _ _ _ _ _ _ _ _ _ _ _ _ _ _ _ _ _ _ ?k1 ?k2 ?k3 ?k4 ?k5 ?kK ?kp ?kd ?ku ?_); (case k1 => k_asm); (case k2 => k_asm); (case k3 => k_asm); (case k4 => k_asm); (case k5 => k_asm); (case kK => first | exact rfl | assumption); (case kp => (first | trivial | omega | ((try dsimp only); omega) | assumption | l_fact)); (case kd => ktr_room); (case ku => ktr_units); intro t9 h9 tk9 F9 N9; (try dsimp only); (try k_fold))
  k_with "tree" => (simp only [toS]; (repeat' split) <;> first | rfl | omega | (simp_all; done))
  have cbI : CbIn 106 := CbIn.mk
  refine wpAny_call ?_
  k_dflt (refine' code_def ?k1 ?k2 ?k3 ?k4 ?k5 ?kA ?kF ?kK ?k6 ?k7 ?k8 ?k9 ?kB ?_ ?c2 ?c3 ?c4 ?c5; (case kA => exact rfl); (case kF => exact rfl); (case kK => assumption); (case k1 => k_asm); (case k2 => k_asm); (case k3 => k_asm); (case k4 => k_asm); (case k5 => k_asm); (case k6 => k_is); (case k7 => k_is); (case k8 => ktr_room); (case k9 => exact binds_K (by k_in) rfl (by k_is) rfl rfl rfl); (case c5 => decide); (case kB => exact locs rfl); (case c2 => exact rfl); (case c3 => exact rfl); (case c4 => exact rfl); k_whole; intro g' L' h' FG' F' N' B' X' T'; (try dsimp only); (try k_lift B'); (try k_fold))
  k_steps
  all_goals cb_end hret
theorem C_month_length_armenian (w : World) (mean : ExcName → Option Value) (mg mb : Str → Option Value) :
    CbC 122 0 (∀ (news : Led) (y : Int) (ty : Tok) (m : Int) (tm : Tok), CL w mean mg mb 2 122 news (m ≤ 13) [.int y ty, .int m tm, .none] (fun t => .int (dimA m) t)) := by
  unfold CbC
  dsimp only [CL, CbRet]
  k_fill
  intro _ y ty m tm
  intros; rename_i hp _ _ hret
  k_with_none
  k_with "tree" => (simp only [dimA]; (repeat' split) <;> first | rfl | omega | (simp_all; done))
  have cbI : CbIn 122 := CbIn.mk
  refine wpAny_call ?_
  k_dflt (refine' code_def ?k1 ?k2 ?k3 ?k4 ?k5 ?kA ?kF ?kK ?k6 ?k7 ?k8 ?k9 ?kB ?_ ?c2 ?c3 ?c4 ?c5; (case kA => exact rfl); (case kF => exact rfl); (case kK => assumption); (case k1 => k_asm); (case k2 => k_asm); (case k3 => k_asm); (case k4 => k_asm); (case k5 => k_asm); (case k6 => k_is); (case k7 => k_is); (case k8 => ktr_room); (case k9 => exact binds_K (by k_in) rfl (by k_is) rfl rfl rfl); (case c5 => decide); (case kB => exact locs rfl); (case c2 => exact rfl); (case c3 => exact rfl); (case c4 => exact rfl); k_whole; intro g' L' h' FG' F' N' B' X' T'; (try dsimp only); (try k_lift B'); (try k_fold))
  k_steps
  all_goals cb_end hret
theorem C_month_length_armenianS (w : World) (mean : ExcName → Option Value) (mg mb : Str → Option Value) :
    CbC 122 0 (∀ (news : Led) (y : Int) (ty : Tok) (m : Int) (tm : Tok) (tme : Tok), CL w mean mg mb 2 122 news (m ≤ 13) [.int y ty, .int m tm, .str (Str.ofString "sarkawag") tme] (fun t => .int (dimS y m) t)) := by
  unfold CbC
  dsimp only [CL, CbRet]
  k_fill
  intro _ y ty m tm tme
  intros; rename_i hp _ _ hret
  k_with_none
  have c_leap_armenian := C_leap_armenian w mean mg mb
  dsimp only [CL, CT] at c_leap_armenian
  k_with "call ref" => (k_dflt (refine' (CbC.out c_leap_armenian) _ _ _ _ _ _ _ _ _ _ _ _ _ _ _ _ _ _ _ _ ?k1 ?k2 ?k3 ?k4 ?k5 ?kK ?kp ?kd ?ku ?_); (case k1 => k_asm); (case k2 => k_asm); (case k3 => k_asm); (case k4 => k_asm); (case k5 => k_asm); (case kK => first | exact rfl | assumption); (case kp => (first | trivial | omega | ((try dsimp only); omega) | assumption | l_fact)); (case kd => ktr_room); (case ku => ktr_units); intro t9 h9 tk9 F9 N9; (try dsimp only); (try k_fold))
  k_with "tree" => (simp only [dimS]; (repeat' split) <;> first | rfl | omega | contradiction | (simp_all; done))
  have cbI : CbIn 122 := CbIn.mk
  refine wpAny_call ?_
  k_dflt (refine' code_def ?k1 ?k2 ?k3 ?k4 ?k5 ?kA ?kF ?kK ?k6 ?k7 ?k8 ?k9 ?kB ?_ ?c2 ?c3 ?c4 ?c5; (case kA => exact rfl); (case kF => exact rfl); (case kK => assumption); (case k1 => k_asm); (case k2 => k_asm); (case k3 => k_asm); (case k4 => k_asm); (case k5 => k_asm); (case k6 => k_is); (case k7 => k_is); (case k8 => ktr_room); (case k9 => exact binds_K (by k_in) rfl (by k_is) rfl rfl rfl); (case c5 => decide); (case kB => exact locs rfl); (case c2 => exact rfl); (case c3 => exact rfl); (case c4 => exact rfl); k_whole; intro g' L' h' FG' F' N' B' X' T'; (try dsimp only); (try k_lift B'); (try k_fold))
  k_steps
  all_goals cb_end hret
theorem C_from_jd_armenian (w : World) (mean : ExcName → Option Value) (mg mb : Str → Option Value) :
    CbC 114 0 (∀ (news : Led) (n : Int) (tn : Tok), CT w mean mg mb 3 114 news (2117600 ≤ n ∧ n ≤ 5400000) [.int n tn] (faY n) (faM n) (faD n)) := by
  unfold CbC
  dsimp only [CT]
  k_fill
  intro _ n tn
  intros; rename_i hp _ _ hret
  k_with_none
  have c_trunc365 := C_trunc365 w mean mg mb
  dsimp only [CL, CT] at c_trunc365
  have c_trunc30 := C_trunc30 w mean mg mb
  dsimp only [CL, CT] at c_trunc30
  k_with "call ref" => (k_dflt (refine' (CbC.out c_trunc365) _ _ _ _ _ _ _ _ _ _ _ _ _ _ _ _ _ _ _ _ _ ?k1 ?k2 ?k3 ?k4 ?k5 ?kK ?kp ?kd ?ku ?_); (case k1 => k_asm); (case k2 => k_asm); (case k3 => k_asm); (case k4 => k_asm); (case k5 => k_asm); (case kK => first | exact rfl | assumption); (case kp => (first | trivial | omega | ((try dsimp only); omega) | assumption | l_fact)); (case kd => ktr_room); (case ku => ktr_units); intro t9 h9 tk9 F9 N9; (try dsimp only); (try k_fold))
  k_with "call ref" => (k_dflt (refine' (CbC.out c_trunc30) _ _ _ _ _ _ _ _ _ _ _ _ _ _ _ _ _ _ _ _ _ ?k1 ?k2 ?k3 ?k4 ?k5 ?kK ?kp ?kd ?ku ?_); (case k1 => k_asm); (case k2 => k_asm); (case k3 => k_asm); (case k4 => k_asm); (case k5 => k_asm); (case kK => first | exact rfl | assumption); (case kp => (first | trivial | omega | ((try dsimp only); omega) | assumption | l_fact)); (case kd => ktr_room); (case ku => ktr_units); intro t9 h9 tk9 F9 N9; (try dsimp only); (try k_fold))
  have cbI : CbIn 114 := CbIn.mk
  refine wpAny_call ?_
  k_dflt (refine' code_def ?k1 ?k2 ?k3 ?k4 ?k5 ?kA ?kF ?kK ?k6 ?k7 ?k8 ?k9 ?kB ?_ ?c2 ?c3 ?c4 ?c5; (case kA => exact rfl); (case kF => exact rfl); (case kK => assumption); (case k1 => k_asm); (case k2 => k_asm); (case k3 => k_asm); (case k4 => k_asm); (case k5 => k_asm); (case k6 => k_is); (case k7 => k_is); (case k8 => ktr_room); (case k9 => exact binds_K (by k_in) rfl (by k_is) rfl rfl rfl); (case c5 => decide); (case kB => exact locs rfl); (case c2 => exact rfl); (case c3 => exact rfl); (case c4 => exact rfl); k_whole; intro g' L' h' FG' F' N' B' X' T'; (try dsimp only); (try k_lift B'); (try k_fold))
  k_steps
  all_goals (refine' ct_retM hret ?j1 ?j2 ?j3 ?j4 ?j5 rfl rfl rfl; (case j1 => k_asm); (case j2 => k_asm); (case j3 => exact List.Mem.head _); (case j4 => (intro p9 hp9; kcj_m)); (case j5 => (first | (rename _ ∧ AllLt _ _ => q9; exact q9.2) | exact allLt_of (by assumption) | assumption)))
theorem C_from_jd_armenianS (w : World) (mean : ExcName → Option Value) (mg mb : Str → Option Value) :
    CbC 114 0 (∀ (news : Led) (n : Int) (tn : Tok) (tme : Tok), CT w mean mg mb 3 114 news (2117600 ≤ n ∧ n ≤ 5400000) [.int n tn, .str (Str.ofString "sarkawag") tme] (fsY n) (fsM n) (fsD n)) := by
  unfold CbC
  dsimp only [CT]
  k_fill
  intro _ n tn tme
  intros; rename_i hp _ _ hret
  k_with_none
  have c_trunc1461 := C_trunc1461 w mean mg mb
  dsimp only [CL, CT] at c_trunc1461
  have c_trunc4 := C_trunc4 w mean mg mb
  dsimp only [CL, CT] at c_trunc4
  have c_trunc30 := C_trunc30 w mean mg mb
  dsimp only [CL, CT] at c_trunc30
  k_with "call ref" => (k_dflt (refine' (CbC.out c_trunc1461) _ _ _ _ _ _ _ _ _ _ _ _ _ _ _ _ _ _ _ _ _ ?k1 ?k2 ?k3 ?k4 ?k5 ?kK ?kp ?kd ?ku ?_); (case k1 => k_asm); (case k2 => k_asm); (case k3 => k_asm); (case k4 => k_asm); (case k5 => k_asm); (case kK => first | exact rfl | assumption); (case kp => (first | trivial | omega | ((try dsimp only); omega) | assumption | l_fact)); (case kd => ktr_room); (case ku => ktr_units); intro t9 h9 tk9 F9 N9; (try dsimp only); (try k_fold))
  k_with "call ref" => (k_dflt (refine' (CbC.out c_trunc4) _ _ _ _ _ _ _ _ _ _ _ _ _ _ _ _ _ _ _ _ _ ?k1 ?k2 ?k3 ?k4 ?k5 ?kK ?kp ?kd ?ku ?_); (case k1 => k_asm); (case k2 => k_asm); (case k3 => k_asm); (case k4 => k_asm); (case k5 => k_asm); (case kK => first | exact rfl | assumption); (case kp => (first | trivial | omega | ((try dsimp only); omega) | assumption | l_fact)); (case kd => ktr_room); (case ku => ktr_units); intro t9 h9 tk9 F9 N9; (try dsimp only); (try k_fold))
  k_with "call ref" => (k_dflt (refine' (CbC.out c_trunc30) _ _ _ _ _ _ _ _ _ _ _ _ _ _ _ _ _ _ _ _ _ ?k1 ?k2 ?k3 ?k4 ?k5 ?kK ?kp ?kd ?ku ?_); (case k1 => k_asm); (case k2 => k_asm); (case k3 => k_asm); (case k4 => k_asm); (case k5 => k_asm); (case kK => first | exact rfl | assumption); (case kp => (first | trivial | omega | ((try dsimp only); omega) | assumption | l_fact)); (case kd => ktr_room); (case ku => ktr_units); intro t9 h9 tk9 F9 N9; (try dsimp only); (try k_fold))
  have cbI : CbIn 114 := CbIn.mk
  refine wpAny_call ?_
  k_dflt (refine' code_def ?k1 ?k2 ?k3 ?k4 ?k5 ?kA ?kF ?kK ?k6 ?k7 ?k8 ?k9 ?kB ?_ ?c2 ?c3 ?c4 ?c5; (case kA => exact rfl); (case kF => exact rfl); (case kK => assumption); (case k1 => k_asm); (case k2 => k_asm); (case k3 => k_asm); (case k4 => k_asm); (case k5 => k_asm); (case k6 => k_is); (case k7 => k_is); (case k8 => ktr_room); (case k9 => exact binds_K (by k_in) rfl (by k_is) rfl rfl rfl); (case c5 => decide); (case kB => exact locs rfl); (case c2 => exact rfl); (case c3 => exact rfl); (case c4 => exact rfl); k_whole; intro g' L' h' FG' F' N' B' X' T'; (try dsimp only); (try k_lift B'); (try k_fold))
  k_steps
  all_goals ((first | have eV := fsVY_1 n (by assumption) (by assumption) | have eV := fsVY_2 n (by assumption) (by assumption) | have eV := fsVY_3 n (by assumption)); have eM := fsMD n eV.1; refine' ct_retM hret ?j1 ?j2 ?j3 ?j4 ?j5 eV.2.symm eM.1 eM.2; (case j1 => k_asm); (case j2 => k_asm); (case j3 => exact List.Mem.head _); (case j4 => (intro p9 hp9; kcj_m)); (case j5 => (first | (rename _ ∧ AllLt _ _ => q9; exact q9.2) | exact allLt_of (by assumption) | assumption)))
end Mine
open PySem PySem.W PyProof.Rows
set_option Elab.async false
set_option maxRecDepth 100000
set_option maxHeartbeats 1000000
namespace Mine
local macro_rules | `(tactic| walk_at "eval Call") => `(tactic| (k_here; k_dflt (refine Call_ ?_)))
local macro_rules | `(tactic| walk_at "ite") => `(tactic| (k_here; k_openite; first
  | (refine ite_pos (by (simp only [beq_iff_eq, bne_iff_ne, ne_eq, decide_eq_true_eq]; first | assumption | omega)) ?_; walk_say "P+")
  | (refine ite_neg (by (simp only [beq_iff_eq, bne_iff_ne, ne_eq, decide_eq_true_eq]; first | assumption | omega)) ?_; walk_say "P-")))
local macro_rules | `(tactic| walk_at "compareOp In int ref") => `(tactic| (k_here; k_dflt (refine' in_topK ?k1 ?k2 ?k3 ?k4 ?k5 ?k6 ?_; (case k1 => k_asm); (case k2 => k_asm); (case k3 => k_is); (case k4 => rfl); (case k5 => rfl); (case k6 => l_intsW); k_whole); (first | rw [any4] | rw [any5] | rw [any6])))
local macro_rules | `(tactic| k_all) => `(tactic| exact news_ne (by assumption) (by omega))
local macro_rules | `(tactic| walk_at "eval ListComp") => `(tactic| (k_here; k_dflt (refine ListComp_R (by k_asm) (by with_unfolding_all rfl) (by decide) (by rfl) (by decide) (by rfl) ?_)))
local macro_rules | `(tactic| walk_at "binaryOp Mult ref int") => `(tactic| (k_here; (k_dflt (refine' mulNone ?k1 ?k2 ?k3 ?k4 ?k5 ?_; (case k1 => k_asm); (case k2 => k_asm); (case k3 => exact List.Mem.head _); (case k4 => l_fact); (case k5 => l_fact); k_whole); intro D' h' F' N' l1; (try k_lt l1); (try k_sweep))))
local macro_rules | `(tactic| walk_at "binaryOp Mult int ref") => `(tactic| (k_here; (k_dflt (refine' mulNoneR ?k1 ?k2 ?k3 ?k4 ?k5 ?_; (case k1 => k_asm); (case k2 => k_asm); (case k3 => exact List.Mem.head _); (case k4 => omega); (case k5 => omega); k_whole); intro D' h' F' N' l1; (try k_lt l1); (try k_sweep))))
local macro_rules | `(tactic| walk_at "binaryOp Add ref ref") => `(tactic| (k_here; (k_dflt (refine' addLists ?k1 ?k2 ?k3 ?k4 ?k5 ?_; (case k1 => k_asm); (case k2 => k_asm); (case k3 => k_mem); (case k4 => k_mem); (case k5 => ((rename CA _ _ => hC9); (have hLn := CA.length hC9); (try simp only [List.length_map, List.length_range'] at hLn); (try simp only [List.size_toArray, List.length_append, List.length_replicate, Array.length_toList]); omega)); k_whole); intro D' h' F' N' l1; (try k_lt l1); (try k_sweep))))
local macro_rules | `(tactic| walk_at "call type:list") => `(tactic| (k_here; ((with_reducible show wpAny _ _ (call (Value.type _) [Value.ref _]) _ _ _); (rename IsRange _ _ _ _ _ _ _ _ => rgX); (with_unfolding_all refine' listRange (n := _) ?k0 ?k1 ?k2 ?k3 ?k4 ?k5 ?k6 ?_; (case k0 => with_unfolding_all rfl); (case k1 => k_asm); (case k2 => k_asm); (case k3 => assumption); (case k4 => exact small_one (by omega) (by omega) (by omega) (by omega)); (case k5 => exact rangeSize_nat _ _); (case k6 => omega)); intro D' c' vs' h' tk' F' N' hCA l1; (try k_lt l1); (try k_sweep))))
theorem C_monthcalendarhelper (w : World) (mean : ExcName → Option Value) (mg mb : Str → Option Value) :
    CbC 83 0 (∀ (news : Led) (sw : Int) (tsw : Tok) (ml : Int) (tml : Tok), CR w mean mg mb 3 83 news (0 ≤ sw ∧ sw ≤ 6 ∧ 5 ≤ ml ∧ ml ≤ 31) [.int sw tsw, .int ml tml] (Int.fmod (sw + 1) 7).toNat ml.toNat) := by
  unfold CbC
  dsimp only [CR]
  k_fill
  intro _ sw tsw ml tml
  intros; rename_i hp _ _ hret
  k_with_none
  have hl0 : 0 ≤ Int.fmod (sw + 1) 7 := by l_fact
  have hl1 : Int.fmod (sw + 1) 7 ≤ 6 := by l_fact
  have cbI : CbIn 83 := CbIn.mk
  refine wpAny_call ?_
  k_dflt (refine' code_defC ?k1 ?k2 ?k3 ?k4 ?k5 ?kA ?kF ?kK ?k6 ?k7 ?k8 ?k9 ?kB ?kD ?_ ?c2 ?c3 ?c4; (case kA => exact rfl); (case kF => exact rfl); (case kK => assumption); (case k1 => k_asm); (case k2 => k_asm); (case k3 => k_asm); (case k4 => k_asm); (case k5 => k_asm); (case k6 => k_is); (case k7 => k_is); (case k8 => ktr_room); (case k9 => exact BindsTo.of_eq rfl); (case kB => exact rfl); (case kD => decide +kernel); (case c2 => exact rfl); (case c3 => exact rfl); (case c4 => exact rfl); k_whole; intro g' L' h' tk' cells' FG' F' N' Y' B' X' T' l1; (try k_lt l1); k_cells Y'; (try simp only [List.cons_append, List.nil_append] at N'); (try dsimp only); (try k_lift B'); (try k_fold))
  k_steps
  rename IsRange _ _ _ _ 7 _ _ _ => rg9
  rename CA _ _ => hC9
  rename News _ _ _ _ => N9
  rename Fr _ _ _ _ => F9
  rename _ = Data.cell (some _) => d9
  generalize hlp : (Int.fmod (sw + 1) 7).toNat = lp
  have hlp' : Int.fmod (sw + 1) 7 = (lp : Int) := by omega
  have hV := ca_cells (lp := lp) (ml := ml.toNat) (k7 := Int.toNat 7) (by omega) rfl hC9
  rw [hlp] at N9
  obtain ⟨nw0, N10, hDays, hCell, hnews⟩ := mch_pack N9
  have hvl := CA.length hV
  have hcl : (cellsP lp ml.toNat).length = lp + ml.toNat + 7 := by simp [cellsP]; omega
  generalize hvals : (List.replicate lp Value.none ++ _ ++ List.replicate (Int.toNat 7) Value.none) = vals at hV hDays hvl
  refine ⟨_, 0, _, 7, _, _, _, _, _, rfl, by with_unfolding_all rfl, F9, N10, rg9, small7 _ (by omega) (by omega), sizeR7 _ (by omega), by rw [sizeLine_eq]; omega, ?_⟩
  rintro _ ⟨g9, rfl⟩
  refine CompRest_ind (RowsJ nw0 lp ml.toNat) ?_ ?_ _ 0 [] nw0 (Nat.zero_add _) (RowsJ.init _ _ _)
  · rintro i ys nw v I oI C oC D m₂ h tk E' hi hJ ⟨t, rfl⟩ hN hx F N off ne
    have hsub : ∀ p ∈ nw0, p ∈ nw := by obtain ⟨rs, _, _, hsub, _⟩ := hJ; exact hsub
    have N1 := news_two N (hsub _ hCell) (hsub _ hDays)
    have hI := Heap.lt_size (N _ (.head _)).1
    have hC := Heap.lt_size (N _ (.tail _ (.head _))).1
    have hD := Heap.lt_size (N _ (.tail _ (.tail _ (.head _)))).1
    clear N N9 N10 F9
    k_steps
    rename News _ _ _ _ => N8
    rw [slice7 vals i (by omega) _ _ rfl rfl] at N8
    refine LCg.CompEnd.intro (by k_asm) N8 ((_, W.listOf ((vals.drop (7 * i)).take 7).toArray 0) :: nw) mch_sub ⟨⟨?_, ?_, ?_⟩, off⟩ trivial (hJ.step ((hV.drop _).take 7))
    · dsimp only at hI ⊢; exact Nat.ne_of_gt (Nat.lt_succ_of_lt hI)
    · dsimp only at hC ⊢; exact Nat.ne_of_gt (Nat.lt_succ_of_lt hC)
    · dsimp only at hD ⊢; exact Nat.ne_of_gt (Nat.lt_succ_of_lt hD)
  · rintro ys nw hJ
    intro D h tk F N off
    k_steps
    have hF := RowsJ.fin hJ (by unfold nRows; omega) hnews (by k_asm)
    rw [hlp] at hret
    exact hret D _ h tk (by k_asm) hF.1 hF.2
end Mine
open PySem PySem.W PyProof.Rows
set_option Elab.async false
set_option maxRecDepth 100000
set_option maxHeartbeats 8000000
namespace Mine
local macro_rules | `(tactic| walk_at "eval Call") => `(tactic| (k_here; k_dflt (refine Call_ ?_)))
local macro_rules | `(tactic| walk_at "ite") => `(tactic| (k_here; k_openite; first
  | (refine ite_pos (by (simp only [beq_iff_eq, bne_iff_ne, ne_eq, decide_eq_true_eq]; first | assumption | omega)) ?_; walk_say "P+")
  | (refine ite_neg (by (simp only [beq_iff_eq, bne_iff_ne, ne_eq, decide_eq_true_eq]; first | assumption | omega)) ?_; walk_say "P-")))
local macro_rules | `(tactic| walk_at "compareOp In int ref") => `(tactic| (k_here; k_dflt (refine' in_topK ?k1 ?k2 ?k3 ?k4 ?k5 ?k6 ?_; (case k1 => k_asm); (case k2 => k_asm); (case k3 => k_is); (case k4 => rfl); (case k5 => rfl); (case k6 => l_intsW); k_whole); (first | rw [any4] | rw [any5] | rw [any6])))
theorem dimG_range (y m : Int) : 28 ≤ dimG y m ∧ dimG y m ≤ 31 := by unfold dimG; (repeat' split) <;> omega
theorem dimJ_range (y m : Int) : 28 ≤ dimJ y m ∧ dimJ y m ≤ 31 := by unfold dimJ; (repeat' split) <;> omega
theorem dimI_range (y m : Int) : 29 ≤ dimI y m ∧ dimI y m ≤ 30 := by unfold dimI; (repeat' split) <;> omega
theorem dimC_range (y m : Int) : 5 ≤ dimC y m ∧ dimC y m ≤ 30 := by unfold dimC; (repeat' split) <;> omega
theorem dimN_range (y m : Int) : 30 ≤ dimN y m ∧ dimN y m ≤ 31 := by unfold dimN; (repeat' split) <;> omega
theorem dimA_range (m : Int) : 5 ≤ dimA m ∧ dimA m ≤ 30 := by unfold dimA; (repeat' split) <;> omega
theorem dimS_range (y m : Int) : 5 ≤ dimS y m ∧ dimS y m ≤ 30 := by unfold dimS; (repeat' split) <;> omega
theorem fm7 (a : Int) : 0 ≤ Int.fmod a 7 ∧ Int.fmod a 7 ≤ 6 := by
  rw [Int.fmod_eq_emod_of_nonneg _ (by omega)]; omega
theorem C_jwday (w : World) (mean : ExcName → Option Value) (mg mb : Str → Option Value) :
    CbC 43 0 (∀ (news : Led) (j : Int) (tj : Tok), CL w mean mg mb 1 43 news (True) [.int j tj] (fun t => .int (Int.fmod j 7) t)) := by
  unfold CbC
  dsimp only [CL, CbRet]
  k_fill
  intro _ j tj
  intros; rename_i hp _ _ hret
  k_with_none
  have cbI : CbIn 43 := CbIn.mk
  refine wpAny_call ?_
  k_dflt cell_enter
  k_steps
  all_goals cb_end hret
theorem C_monthcalendar_gregorian (w : World) (mean : ExcName → Option Value) (mg mb : Str → Option Value) :
    CbC 201 0 (∀ (news : Led) (y : Int) (ty : Tok) (m : Int) (tm : Tok), CR w mean mg mb 5 201 news (1 ≤ m ∧ m ≤ 12) [.int y ty, .int m tm] (Int.fmod (Int.fmod (toG y m 1) 7 + 1) 7).toNat (dimG y m).toNat) := by
  unfold CbC
  dsimp only [CR]
  k_fill
  intro _ y ty m tm
  intros; rename_i hp _ _ hret
  k_with_none
  have c_to_jd_gregorian := C_to_jd_gregorian w mean mg mb
  dsimp only [CL, CT] at c_to_jd_gregorian
  have c_month_length_gregorian := C_month_length_gregorian w mean mg mb
  dsimp only [CL, CT] at c_month_length_gregorian
  have c_jwday := C_jwday w mean mg mb
  dsimp only [CL, CT] at c_jwday
  k_with "call ref" => (k_dflt (refine' (CbC.out c_to_jd_gregorian) _ _ _ _ _ _ _ _ _ _ _ _ _ _ _ _ _ _ _ _ _ _ _ _ ?k1 ?k2 ?k3 ?k4 ?k5 ?kK ?kp ?kd ?ku ?_); (case k1 => k_asm); (case k2 => k_asm); (case k3 => k_asm); (case k4 => k_asm); (case k5 => k_asm); (case kK => first | exact rfl | assumption); (case kp => (first | trivial | omega | ((try dsimp only); omega) | assumption | l_fact)); (case kd => ktr_room); (case ku => ktr_units); intro t9 h9 tk9 F9 N9; (try dsimp only); (try k_fold))
  k_with "call ref" => (k_dflt (refine' (CbC.out c_month_length_gregorian) _ _ _ _ _ _ _ _ _ _ _ _ _ _ _ _ _ _ _ _ _ _ ?k1 ?k2 ?k3 ?k4 ?k5 ?kK ?kp ?kd ?ku ?_); (case k1 => k_asm); (case k2 => k_asm); (case k3 => k_asm); (case k4 => k_asm); (case k5 => k_asm); (case kK => first | exact rfl | assumption); (case kp => (first | trivial | omega | ((try dsimp only); omega) | assumption | l_fact)); (case kd => ktr_room); (case ku => ktr_units); intro t9 h9 tk9 F9 N9; (try dsimp only); (try k_fold))
  k_with "call ref" => (k_dflt (refine' (CbC.out c_jwday) _ _ _ _ _ _ _ _ _ _ _ _ _ _ _ _ _ _ _ _ ?k1 ?k2 ?k3 ?k4 ?k5 ?kK ?kp ?kd ?ku ?_); (case k1 => k_asm); (case k2 => k_asm); (case k3 => k_asm); (case k4 => k_asm); (case k5 => k_asm); (case kK => first | exact rfl | assumption); (case kp => (first | trivial | omega | ((try dsimp only); omega) | assumption | l_fact)); (case kd => ktr_room); (case ku => ktr_units); intro t9 h9 tk9 F9 N9; (try dsimp only); (try k_fold))
  have c_monthcalendarhelper := C_monthcalendarhelper w mean mg mb
  dsimp only [CR] at c_monthcalendarhelper
  k_with "call ref" => (k_dflt (refine' (CbC.out c_monthcalendarhelper) _ _ _ _ _ _ _ _ _ _ _ _ _ _ _ _ _ _ _ _ _ _ ?k1 ?k2 ?k3 ?k4 ?k5 ?kK ?kp ?kd ?ku ?_); (case k1 => k_asm); (case k2 => k_asm); (case k3 => k_asm); (case k4 => k_asm); (case k5 => k_asm); (case kK => first | exact rfl | assumption); (case kp => ((have q8 := fm7 (toG y m 1)); (have q9 := dimG_range y m); omega)); (case kd => ktr_room); (case ku => ktr_units); intro R9 made9 h9 tk9 F9 N9 hR9; (try dsimp only); (try k_fold))
  have cbI : CbIn 201 := CbIn.mk
  refine wpAny_call ?_
  k_dflt cell_enter
  k_steps
  rename RowsIn _ _ _ _ => hR8
  exact hret _ _ _ _ (by k_asm) (by k_asm) hR8
theorem C_monthcalendar_julian (w : World) (mean : ExcName → Option Value) (mg mb : Str → Option Value) :
    CbC 330 0 (∀ (news : Led) (y : Int) (ty : Tok) (m : Int) (tm : Tok), CR w mean mg mb 6 330 news (1 ≤ m ∧ m ≤ 12) [.int y ty, .int m tm] (Int.fmod (Int.fmod (toJu y m 1) 7 + 1) 7).toNat (dimJ y m).toNat) := by
  unfold CbC
  dsimp only [CR]
  k_fill
  intro _ y ty m tm
  intros; rename_i hp _ _ hret
  k_with_none
  have c_to_jd_julian := C_to_jd_julian w mean mg mb
  dsimp only [CL, CT] at c_to_jd_julian
  have c_month_length_julian := C_month_length_julian w mean mg mb
  dsimp only [CL, CT] at c_month_length_julian
  have c_jwday := C_jwday w mean mg mb
  dsimp only [CL, CT] at c_jwday
  k_with "call ref" => (k_dflt (refine' (CbC.out c_to_jd_julian) _ _ _ _ _ _ _ _ _ _ _ _ _ _ _ _ _ _ _ _ _ _ _ _ ?k1 ?k2 ?k3 ?k4 ?k5 ?kK ?kp ?kd ?ku ?_); (case k1 => k_asm); (case k2 => k_asm); (case k3 => k_asm); (case k4 => k_asm); (case k5 => k_asm); (case kK => first | exact rfl | assumption); (case kp => ((have q9 := dimJ_range y m); omega)); (case kd => ktr_room); (case ku => ktr_units); intro t9 h9 tk9 F9 N9; (try dsimp only); (try k_fold))
  k_with "call ref" => (k_dflt (refine' (CbC.out c_month_length_julian) _ _ _ _ _ _ _ _ _ _ _ _ _ _ _ _ _ _ _ _ _ _ ?k1 ?k2 ?k3 ?k4 ?k5 ?kK ?kp ?kd ?ku ?_); (case k1 => k_asm); (case k2 => k_asm); (case k3 => k_asm); (case k4 => k_asm); (case k5 => k_asm); (case kK => first | exact rfl | assumption); (case kp => (first | trivial | omega | ((try dsimp only); omega) | assumption | l_fact)); (case kd => ktr_room); (case ku => ktr_units); intro t9 h9 tk9 F9 N9; (try dsimp only); (try k_fold))
  k_with "call ref" => (k_dflt (refine' (CbC.out c_jwday) _ _ _ _ _ _ _ _ _ _ _ _ _ _ _ _ _ _ _ _ ?k1 ?k2 ?k3 ?k4 ?k5 ?kK ?kp ?kd ?ku ?_); (case k1 => k_asm); (case k2 => k_asm); (case k3 => k_asm); (case k4 => k_asm); (case k5 => k_asm); (case kK => first | exact rfl | assumption); (case kp => (first | trivial | omega | ((try dsimp only); omega) | assumption | l_fact)); (case kd => ktr_room); (case ku => ktr_units); intro t9 h9 tk9 F9 N9; (try dsimp only); (try k_fold))
  have c_monthcalendarhelper := C_monthcalendarhelper w mean mg mb
  dsimp only [CR] at c_monthcalendarhelper
  k_with "call ref" => (k_dflt (refine' (CbC.out c_monthcalendarhelper) _ _ _ _ _ _ _ _ _ _ _ _ _ _ _ _ _ _ _ _ _ _ ?k1 ?k2 ?k3 ?k4 ?k5 ?kK ?kp ?kd ?ku ?_); (case k1 => k_asm); (case k2 => k_asm); (case k3 => k_asm); (case k4 => k_asm); (case k5 => k_asm); (case kK => first | exact rfl | assumption); (case kp => ((have q8 := fm7 (toJu y m 1)); (have q9 := dimJ_range y m); omega)); (case kd => ktr_room); (case ku => ktr_units); intro R9 made9 h9 tk9 F9 N9 hR9; (try dsimp only); (try k_fold))
  have cbI : CbIn 330 := CbIn.mk
  refine wpAny_call ?_
  k_dflt cell_enter
  k_steps
  rename RowsIn _ _ _ _ => hR8
  exact hret _ _ _ _ (by k_asm) (by k_asm) hR8
theorem C_monthcalendar_islamic (w : World) (mean : ExcName → Option Value) (mg mb : Str → Option Value) :
    CbC 266 0 (∀ (news : Led) (y : Int) (ty : Tok) (m : Int) (tm : Tok), CR w mean mg mb 5 266 news (True) [.int y ty, .int m tm] (Int.fmod (Int.fmod (toI y m 1) 7 + 1) 7).toNat (dimI y m).toNat) := by
  unfold CbC
  dsimp only [CR]
  k_fill
  intro _ y ty m tm
  intros; rename_i hp _ _ hret
  k_with_none
  have c_to_jd_islamic := C_to_jd_islamic w mean mg mb
  dsimp only [CL, CT] at c_to_jd_islamic
  have c_month_length_islamic := C_month_length_islamic w mean mg mb
  dsimp only [CL, CT] at c_month_length_islamic
  have c_jwday := C_jwday w mean mg mb
  dsimp only [CL, CT] at c_jwday
  k_with "call ref" => (k_dflt (refine' (CbC.out c_to_jd_islamic) _ _ _ _ _ _ _ _ _ _ _ _ _ _ _ _ _ _ _ _ _ _ _ _ ?k1 ?k2 ?k3 ?k4 ?k5 ?kK ?kp ?kd ?ku ?_); (case k1 => k_asm); (case k2 => k_asm); (case k3 => k_asm); (case k4 => k_asm); (case k5 => k_asm); (case kK => first | exact rfl | assumption); (case kp => (first | trivial | omega | ((try dsimp only); omega) | assumption | l_fact)); (case kd => ktr_room); (case ku => ktr_units); intro t9 h9 tk9 F9 N9; (try dsimp only); (try k_fold))
  k_with "call ref" => (k_dflt (refine' (CbC.out c_month_length_islamic) _ _ _ _ _ _ _ _ _ _ _ _ _ _ _ _ _ _ _ _ _ _ ?k1 ?k2 ?k3 ?k4 ?k5 ?kK ?kp ?kd ?ku ?_); (case k1 => k_asm); (case k2 => k_asm); (case k3 => k_asm); (case k4 => k_asm); (case k5 => k_asm); (case kK => first | exact rfl | assumption); (case kp => (first | trivial | omega | ((try dsimp only); omega) | assumption | l_fact)); (case kd => ktr_room); (case ku => ktr_units); intro t9 h9 tk9 F9 N9; (try dsimp only); (try k_fold))
  k_with "call ref" => (k_dflt (refine' (CbC.out c_jwday) _ _ _ _ _ _ _ _ _ _ _ _ _ _ _ _ _ _ _ _ ?k1 ?k2 ?k3 ?k4 ?k5 ?kK ?kp ?kd ?ku ?_); (case k1 => k_asm); (case k2 => k_asm); (case k3 => k_asm); (case k4 => k_asm); (case k5 => k_asm); (case kK => first | exact rfl | assumption); (case kp => (first | trivial | omega | ((try dsimp only); omega) | assumption | l_fact)); (case kd => ktr_room); (case ku => ktr_units); intro t9 h9 tk9 F9 N9; (try dsimp only); (try k_fold))
  have c_monthcalendarhelper := C_monthcalendarhelper w mean mg mb
  dsimp only [CR] at c_monthcalendarhelper
  k_with "call ref" => (k_dflt (refine' (CbC.out c_monthcalendarhelper) _ _ _ _ _ _ _ _ _ _ _ _ _ _ _ _ _ _ _ _ _ _ ?k1 ?k2 ?k3 ?k4 ?k5 ?kK ?kp ?kd ?ku ?_); (case k1 => k_asm); (case k2 => k_asm); (case k3 => k_asm); (case k4 => k_asm); (case k5 => k_asm); (case kK => first | exact rfl | assumption); (case kp => ((have q8 := fm7 (toI y m 1)); (have q9 := dimI_range y m); omega)); (case kd => ktr_room); (case ku => ktr_units); intro R9 made9 h9 tk9 F9 N9 hR9; (try dsimp only); (try k_fold))
  have cbI : CbIn 266 := CbIn.mk
  refine wpAny_call ?_
  k_dflt cell_enter
  k_steps
  rename RowsIn _ _ _ _ => hR8
  exact hret _ _ _ _ (by k_asm) (by k_asm) hR8
theorem C_monthcalendar_coptic (w : World) (mean : ExcName → Option Value) (mg mb : Str → Option Value) :
    CbC 165 0 (∀ (news : Led) (y : Int) (ty : Tok) (m : Int) (tm : Tok), CR w mean mg mb 5 165 news (m ≤ 13) [.int y ty, .int m tm] (Int.fmod (Int.fmod (toC y m 1) 7 + 1) 7).toNat (dimC y m).toNat) := by
  unfold CbC
  dsimp only [CR]
  k_fill
  intro _ y ty m tm
  intros; rename_i hp _ _ hret
  k_with_none
  have c_to_jd_coptic := C_to_jd_coptic w mean mg mb
  dsimp only [CL, CT] at c_to_jd_coptic
  have c_month_length_coptic := C_month_length_coptic w mean mg mb
  dsimp only [CL, CT] at c_month_length_coptic
  have c_jwday := C_jwday w mean mg mb
  dsimp only [CL, CT] at c_jwday
  k_with "call ref" => (k_dflt (refine' (CbC.out c_to_jd_coptic) _ _ _ _ _ _ _ _ _ _ _ _ _ _ _ _ _ _ _ _ _ _ _ _ ?k1 ?k2 ?k3 ?k4 ?k5 ?kK ?kp ?kd ?ku ?_); (case k1 => k_asm); (case k2 => k_asm); (case k3 => k_asm); (case k4 => k_asm); (case k5 => k_asm); (case kK => first | exact rfl | assumption); (case kp => (first | trivial | omega | ((try dsimp only); omega) | assumption | l_fact)); (case kd => ktr_room); (case ku => ktr_units); intro t9 h9 tk9 F9 N9; (try dsimp only); (try k_fold))
  k_with "call ref" => (k_dflt (refine' (CbC.out c_month_length_coptic) _ _ _ _ _ _ _ _ _ _ _ _ _ _ _ _ _ _ _ _ _ _ ?k1 ?k2 ?k3 ?k4 ?k5 ?kK ?kp ?kd ?ku ?_); (case k1 => k_asm); (case k2 => k_asm); (case k3 => k_asm); (case k4 => k_asm); (case k5 => k_asm); (case kK => first | exact rfl | assumption); (case kp => (first | trivial | omega | ((try dsimp only); omega) | assumption | l_fact)); (case kd => ktr_room); (case ku => ktr_units); intro t9 h9 tk9 F9 N9; (try dsimp only); (try k_fold))
  k_with "call ref" => (k_dflt (refine' (CbC.out c_jwday) _ _ _ _ _ _ _ _ _ _ _ _ _ _ _ _ _ _ _ _ ?k1 ?k2 ?k3 ?k4 ?k5 ?kK ?kp ?kd ?ku ?_); (case k1 => k_asm); (case k2 => k_asm); (case k3 => k_asm); (case k4 => k_asm); (case k5 => k_asm); (case kK => first | exact rfl | assumption); (case kp => (first | trivial | omega | ((try dsimp only); omega) | assumption | l_fact)); (case kd => ktr_room); (case ku => ktr_units); intro t9 h9 tk9 F9 N9; (try dsimp only); (try k_fold))
  have c_monthcalendarhelper := C_monthcalendarhelper w mean mg mb
  dsimp only [CR] at c_monthcalendarhelper
  k_with "call ref" => (k_dflt (refine' (CbC.out c_monthcalendarhelper) _ _ _ _ _ _ _ _ _ _ _ _ _ _ _ _ _ _ _ _ _ _ ?k1 ?k2 ?k3 ?k4 ?k5 ?kK ?kp ?kd ?ku ?_); (case k1 => k_asm); (case k2 => k_asm); (case k3 => k_asm); (case k4 => k_asm); (case k5 => k_asm); (case kK => first | exact rfl | assumption); (case kp => ((have q8 := fm7 (toC y m 1)); (have q9 := dimC_range y m); omega)); (case kd => ktr_room); (case ku => ktr_units); intro R9 made9 h9 tk9 F9 N9 hR9; (try dsimp only); (try k_fold))
  have cbI : CbIn 165 := CbIn.mk
  refine wpAny_call ?_
  k_dflt cell_enter
  k_steps
  rename RowsIn _ _ _ _ => hR8
  exact hret _ _ _ _ (by k_asm) (by k_asm) hR8
theorem C_monthcalendar_indian_civil (w : World) (mean : ExcName → Option Value) (mg mb : Str → Option Value) :
    CbC 230 0 (∀ (news : Led) (y : Int) (ty : Tok) (m : Int) (tm : Tok), CR w mean mg mb 6 230 news (True) [.int y ty, .int m tm] (Int.fmod (Int.fmod (toN y m 1) 7 + 1) 7).toNat (dimN y m).toNat) := by
  unfold CbC
  dsimp only [CR]
  k_fill
  intro _ y ty m tm
  intros; rename_i hp _ _ hret
  k_with_none
  have c_to_jd_indian_civil := C_to_jd_indian_civil w mean mg mb
  dsimp only [CL, CT] at c_to_jd_indian_civil
  have c_month_length_indian_civil := C_month_length_indian_civil w mean mg mb
  dsimp only [CL, CT] at c_month_length_indian_civil
  have c_jwday := C_jwday w mean mg mb
  dsimp only [CL, CT] at c_jwday
  k_with "call ref" => (k_dflt (refine' (CbC.out c_to_jd_indian_civil) _ _ _ _ _ _ _ _ _ _ _ _ _ _ _ _ _ _ _ _ _ _ _ _ ?k1 ?k2 ?k3 ?k4 ?k5 ?kK ?kp ?kd ?ku ?_); (case k1 => k_asm); (case k2 => k_asm); (case k3 => k_asm); (case k4 => k_asm); (case k5 => k_asm); (case kK => first | exact rfl | assumption); (case kp => (first | trivial | omega | ((try dsimp only); omega) | assumption | l_fact)); (case kd => ktr_room); (case ku => ktr_units); intro t9 h9 tk9 F9 N9; (try dsimp only); (try k_fold))
  k_with "call ref" => (k_dflt (refine' (CbC.out c_month_length_indian_civil) _ _ _ _ _ _ _ _ _ _ _ _ _ _ _ _ _ _ _ _ _ _ ?k1 ?k2 ?k3 ?k4 ?k5 ?kK ?kp ?kd ?ku ?_); (case k1 => k_asm); (case k2 => k_asm); (case k3 => k_asm); (case k4 => k_asm); (case k5 => k_asm); (case kK => first | exact rfl | assumption); (case kp => (first | trivial | omega | ((try dsimp only); omega) | assumption | l_fact)); (case kd => ktr_room); (case ku => ktr_units); intro t9 h9 tk9 F9 N9; (try dsimp only); (try k_fold))
  k_with "call ref" => (k_dflt (refine' (CbC.out c_jwday) _ _ _ _ _ _ _ _ _ _ _ _ _ _ _ _ _ _ _ _ ?k1 ?k2 ?k3 ?k4 ?k5 ?kK ?kp ?kd ?ku ?_); (case k1 => k_asm); (case k2 => k_asm); (case k3 => k_asm); (case k4 => k_asm); (case k5 => k_asm); (case kK => first | exact rfl | assumption); (case kp => (first | trivial | omega | ((try dsimp only); omega) | assumption | l_fact)); (case kd => ktr_room); (case ku => ktr_units); intro t9 h9 tk9 F9 N9; (try dsimp only); (try k_fold))
  have c_monthcalendarhelper := C_monthcalendarhelper w mean mg mb
  dsimp only [CR] at c_monthcalendarhelper
  k_with "call ref" => (k_dflt (refine' (CbC.out c_monthcalendarhelper) _ _ _ _ _ _ _ _ _ _ _ _ _ _ _ _ _ _ _ _ _ _ ?k1 ?k2 ?k3 ?k4 ?k5 ?kK ?kp ?kd ?ku ?_); (case k1 => k_asm); (case k2 => k_asm); (case k3 => k_asm); (case k4 => k_asm); (case k5 => k_asm); (case kK => first | exact rfl | assumption); (case kp => ((have q8 := fm7 (toN y m 1)); (have q9 := dimN_range y m); omega)); (case kd => ktr_room); (case ku => ktr_units); intro R9 made9 h9 tk9 F9 N9 hR9; (try dsimp only); (try k_fold))
  have cbI : CbIn 230 := CbIn.mk
  refine wpAny_call ?_
  k_dflt cell_enter
  k_steps
  rename RowsIn _ _ _ _ => hR8
  exact hret _ _ _ _ (by k_asm) (by k_asm) hR8
theorem C_monthcalendar_armenian (w : World) (mean : ExcName → Option Value) (mg mb : Str → Option Value) :
    CbC 130 0 (∀ (news : Led) (y : Int) (ty : Tok) (m : Int) (tm : Tok), CR w mean mg mb 5 130 news (1 ≤ m ∧ m ≤ 13 ∧ 1 ≤ y) [.int y ty, .int m tm, .none] (Int.fmod (Int.fmod (toA y m 1) 7 + 1) 7).toNat (dimA m).toNat) := by
  unfold CbC
  dsimp only [CR]
  k_fill
  intro _ y ty m tm
  intros; rename_i hp _ _ hret
  k_with_none
  have c_to_jd_armenian := C_to_jd_armenian w mean mg mb
  dsimp only [CL, CT] at c_to_jd_armenian
  have c_month_length_armenian := C_month_length_armenian w mean mg mb
  dsimp only [CL, CT] at c_month_length_armenian
  have c_jwday := C_jwday w mean mg mb
  dsimp only [CL, CT] at c_jwday
  k_with "call ref" => (k_dflt (refine' (CbC.out c_to_jd_armenian) _ _ _ _ _ _ _ _ _ _ _ _ _ _ _ _ _ _ _ _ _ _ _ _ ?k1 ?k2 ?k3 ?k4 ?k5 ?kK ?kp ?kd ?ku ?_); (case k1 => k_asm); (case k2 => k_asm); (case k3 => k_asm); (case k4 => k_asm); (case k5 => k_asm); (case kK => first | exact rfl | assumption); (case kp => (first | trivial | omega | ((try dsimp only); omega) | assumption | l_fact)); (case kd => ktr_room); (case ku => ktr_units); intro t9 h9 tk9 F9 N9; (try dsimp only); (try k_fold))
  k_with "call ref" => (k_dflt (refine' (CbC.out c_month_length_armenian) _ _ _ _ _ _ _ _ _ _ _ _ _ _ _ _ _ _ _ _ _ _ ?k1 ?k2 ?k3 ?k4 ?k5 ?kK ?kp ?kd ?ku ?_); (case k1 => k_asm); (case k2 => k_asm); (case k3 => k_asm); (case k4 => k_asm); (case k5 => k_asm); (case kK => first | exact rfl | assumption); (case kp => (first | trivial | omega | ((try dsimp only); omega) | assumption | l_fact)); (case kd => ktr_room); (case ku => ktr_units); intro t9 h9 tk9 F9 N9; (try dsimp only); (try k_fold))
  k_with "call ref" => (k_dflt (refine' (CbC.out c_jwday) _ _ _ _ _ _ _ _ _ _ _ _ _ _ _ _ _ _ _ _ ?k1 ?k2 ?k3 ?k4 ?k5 ?kK ?kp ?kd ?ku ?_); (case k1 => k_asm); (case k2 => k_asm); (case k3 => k_asm); (case k4 => k_asm); (case k5 => k_asm); (case kK => first | exact rfl | assumption); (case kp => (first | trivial | omega | ((try dsimp only); omega) | assumption | l_fact)); (case kd => ktr_room); (case ku => ktr_units); intro t9 h9 tk9 F9 N9; (try dsimp only); (try k_fold))
  have c_monthcalendarhelper := C_monthcalendarhelper w mean mg mb
  dsimp only [CR] at c_monthcalendarhelper
  k_with "call ref" => (k_dflt (refine' (CbC.out c_monthcalendarhelper) _ _ _ _ _ _ _ _ _ _ _ _ _ _ _ _ _ _ _ _ _ _ ?k1 ?k2 ?k3 ?k4 ?k5 ?kK ?kp ?kd ?ku ?_); (case k1 => k_asm); (case k2 => k_asm); (case k3 => k_asm); (case k4 => k_asm); (case k5 => k_asm); (case kK => first | exact rfl | assumption); (case kp => ((have q8 := fm7 (toA y m 1)); (have q9 := dimA_range m); omega)); (case kd => ktr_room); (case ku => ktr_units); intro R9 made9 h9 tk9 F9 N9 hR9; (try dsimp only); (try k_fold))
  have cbI : CbIn 130 := CbIn.mk
  refine wpAny_call ?_
  k_dflt (refine' code_def ?k1 ?k2 ?k3 ?k4 ?k5 ?kA ?kF ?kK ?k6 ?k7 ?k8 ?k9 ?kB ?_ ?c2 ?c3 ?c4 ?c5; (case kA => exact rfl); (case kF => exact rfl); (case kK => assumption); (case k1 => k_asm); (case k2 => k_asm); (case k3 => k_asm); (case k4 => k_asm); (case k5 => k_asm); (case k6 => k_is); (case k7 => k_is); (case k8 => ktr_room); (case k9 => exact binds_K (by k_in) rfl (by k_is) rfl rfl rfl); (case c5 => decide); (case kB => exact locs rfl); (case c2 => exact rfl); (case c3 => exact rfl); (case c4 => exact rfl); k_whole; intro g' L' h' FG' F' N' B' X' T'; (try dsimp only); (try k_lift B'); (try k_fold))
  k_steps
  rename RowsIn _ _ _ _ => hR8
  exact hret _ _ _ _ (by k_asm) (by k_asm) hR8
theorem C_monthcalendar_armenian2 (w : World) (mean : ExcName → Option Value) (mg mb : Str → Option Value) :
    CbC 130 0 (∀ (news : Led) (y : Int) (ty : Tok) (m : Int) (tm : Tok), CR w mean mg mb 5 130 news (1 ≤ m ∧ m ≤ 13 ∧ 1 ≤ y) [.int y ty, .int m tm] (Int.fmod (Int.fmod (toA y m 1) 7 + 1) 7).toNat (dimA m).toNat) := by
  unfold CbC
  dsimp only [CR]
  k_fill
  intro _ y ty m tm
  intros; rename_i hp _ _ hret
  k_with_none
  have c_to_jd_armenian := C_to_jd_armenian w mean mg mb
  dsimp only [CL, CT] at c_to_jd_armenian
  have c_month_length_armenian := C_month_length_armenian w mean mg mb
  dsimp only [CL, CT] at c_month_length_armenian
  have c_jwday := C_jwday w mean mg mb
  dsimp only [CL, CT] at c_jwday
  k_with "call ref" => (k_dflt (refine' (CbC.out c_to_jd_armenian) _ _ _ _ _ _ _ _ _ _ _ _ _ _ _ _ _ _ _ _ _ _ _ _ ?k1 ?k2 ?k3 ?k4 ?k5 ?kK ?kp ?kd ?ku ?_); (case k1 => k_asm); (case k2 => k_asm); (case k3 => k_asm); (case k4 => k_asm); (case k5 => k_asm); (case kK => first | exact rfl | assumption); (case kp => (first | trivial | omega | ((try dsimp only); omega) | assumption | l_fact)); (case kd => ktr_room); (case ku => ktr_units); intro t9 h9 tk9 F9 N9; (try dsimp only); (try k_fold))
  k_with "call ref" => (k_dflt (refine' (CbC.out c_month_length_armenian) _ _ _ _ _ _ _ _ _ _ _ _ _ _ _ _ _ _ _ _ _ _ ?k1 ?k2 ?k3 ?k4 ?k5 ?kK ?kp ?kd ?ku ?_); (case k1 => k_asm); (case k2 => k_asm); (case k3 => k_asm); (case k4 => k_asm); (case k5 => k_asm); (case kK => first | exact rfl | assumption); (case kp => (first | trivial | omega | ((try dsimp only); omega) | assumption | l_fact)); (case kd => ktr_room); (case ku => ktr_units); intro t9 h9 tk9 F9 N9; (try dsimp only); (try k_fold))
  k_with "call ref" => (k_dflt (refine' (CbC.out c_jwday) _ _ _ _ _ _ _ _ _ _ _ _ _ _ _ _ _ _ _ _ ?k1 ?k2 ?k3 ?k4 ?k5 ?kK ?kp ?kd ?ku ?_); (case k1 => k_asm); (case k2 => k_asm); (case k3 => k_asm); (case k4 => k_asm); (case k5 => k_asm); (case kK => first | exact rfl | assumption); (case kp => (first | trivial | omega | ((try dsimp only); omega) | assumption | l_fact)); (case kd => ktr_room); (case ku => ktr_units); intro t9 h9 tk9 F9 N9; (try dsimp only); (try k_fold))
  have c_monthcalendarhelper := C_monthcalendarhelper w mean mg mb
  dsimp only [CR] at c_monthcalendarhelper
  k_with "call ref" => (k_dflt (refine' (CbC.out c_monthcalendarhelper) _ _ _ _ _ _ _ _ _ _ _ _ _ _ _ _ _ _ _ _ _ _ ?k1 ?k2 ?k3 ?k4 ?k5 ?kK ?kp ?kd ?ku ?_); (case k1 => k_asm); (case k2 => k_asm); (case k3 => k_asm); (case k4 => k_asm); (case k5 => k_asm); (case kK => first | exact rfl | assumption); (case kp => ((have q8 := fm7 (toA y m 1)); (have q9 := dimA_range m); omega)); (case kd => ktr_room); (case ku => ktr_units); intro R9 made9 h9 tk9 F9 N9 hR9; (try dsimp only); (try k_fold))
  have cbI : CbIn 130 := CbIn.mk
  refine wpAny_call ?_
  k_dflt (refine' code_def ?k1 ?k2 ?k3 ?k4 ?k5 ?kA ?kF ?kK ?k6 ?k7 ?k8 ?k9 ?kB ?_ ?c2 ?c3 ?c4 ?c5; (case kA => exact rfl); (case kF => exact rfl); (case kK => assumption); (case k1 => k_asm); (case k2 => k_asm); (case k3 => k_asm); (case k4 => k_asm); (case k5 => k_asm); (case k6 => k_is); (case k7 => k_is); (case k8 => ktr_room); (case k9 => exact binds_K (by k_in) rfl (by k_is) rfl rfl rfl); (case c5 => decide); (case kB => exact locs rfl); (case c2 => exact rfl); (case c3 => exact rfl); (case c4 => exact rfl); k_whole; intro g' L' h' FG' F' N' B' X' T'; (try dsimp only); (try k_lift B'); (try k_fold))
  k_steps
  rename RowsIn _ _ _ _ => hR8
  exact hret _ _ _ _ (by k_asm) (by k_asm) hR8
theorem C_monthcalendar_armenianS (w : World) (mean : ExcName → Option Value) (mg mb : Str → Option Value) :
    CbC 130 0 (∀ (news : Led) (y : Int) (ty : Tok) (m : Int) (tm : Tok) (tme : Tok), CR w mean mg mb 5 130 news (1 ≤ m ∧ m ≤ 13 ∧ 533 ≤ y) [.int y ty, .int m tm, .str (Str.ofString "sarkawag") tme] (Int.fmod (Int.fmod (toS y m 1) 7 + 1) 7).toNat (dimS y m).toNat) := by
  unfold CbC
  dsimp only [CR]
  k_fill
  intro _ y ty m tm tme
  intros; rename_i hp _ _ hret
  k_with_none
  have c_to_jd_armenianS := C_to_jd_armenianS w mean mg mb
  dsimp only [CL, CT] at c_to_jd_armenianS
  have c_month_length_armenianS := C_month_length_armenianS w mean mg mb
  dsimp only [CL, CT] at c_month_length_armenianS
  have c_jwday := C_jwday w mean mg mb
  dsimp only [CL, CT] at c_jwday
  k_with "call ref" => (k_dflt (refine' (CbC.out c_to_jd_armenianS) _ _ _ _ _ _ _ _ _ _ _ _ _ _ _ _ _ _ _ _ _ _ _ _ _ ?k1 ?k2 ?k3 ?k4 ?k5 ?kK ?kp ?kd ?ku ?_); (case k1 => k_asm); (case k2 => k_asm); (case k3 => k_asm); (case k4 => k_asm); (case k5 => k_asm); (case kK => first | exact rfl | assumption); (case kp => (refine ⟨by omega, by omega, by omega, by omega, by omega, fun _ => .inl (by omega)⟩)); (case kd => ktr_room); (case ku => ktr_units); intro t9 h9 tk9 F9 N9; (try dsimp only); (try k_fold))
  k_with "call ref" => (k_dflt (refine' (CbC.out c_month_length_armenianS) _ _ _ _ _ _ _ _ _ _ _ _ _ _ _ _ _ _ _ _ _ _ _ ?k1 ?k2 ?k3 ?k4 ?k5 ?kK ?kp ?kd ?ku ?_); (case k1 => k_asm); (case k2 => k_asm); (case k3 => k_asm); (case k4 => k_asm); (case k5 => k_asm); (case kK => first | exact rfl | assumption); (case kp => (first | trivial | omega | ((try dsimp only); omega) | assumption | l_fact)); (case kd => ktr_room); (case ku => ktr_units); intro t9 h9 tk9 F9 N9; (try dsimp only); (try k_fold))
  k_with "call ref" => (k_dflt (refine' (CbC.out c_jwday) _ _ _ _ _ _ _ _ _ _ _ _ _ _ _ _ _ _ _ _ ?k1 ?k2 ?k3 ?k4 ?k5 ?kK ?kp ?kd ?ku ?_); (case k1 => k_asm); (case k2 => k_asm); (case k3 => k_asm); (case k4 => k_asm); (case k5 => k_asm); (case kK => first | exact rfl | assumption); (case kp => (first | trivial | omega | ((try dsimp only); omega) | assumption | l_fact)); (case kd => ktr_room); (case ku => ktr_units); intro t9 h9 tk9 F9 N9; (try dsimp only); (try k_fold))
  have c_monthcalendarhelper := C_monthcalendarhelper w mean mg mb
  dsimp only [CR] at c_monthcalendarhelper
  k_with "call ref" => (k_dflt (refine' (CbC.out c_monthcalendarhelper) _ _ _ _ _ _ _ _ _ _ _ _ _ _ _ _ _ _ _ _ _ _ ?k1 ?k2 ?k3 ?k4 ?k5 ?kK ?kp ?kd ?ku ?_); (case k1 => k_asm); (case k2 => k_asm); (case k3 => k_asm); (case k4 => k_asm); (case k5 => k_asm); (case kK => first | exact rfl | assumption); (case kp => ((have q8 := fm7 (toS y m 1)); (have q9 := dimS_range y m); omega)); (case kd => ktr_room); (case ku => ktr_units); intro R9 made9 h9 tk9 F9 N9 hR9; (try dsimp only); (try k_fold))
  have cbI : CbIn 130 := CbIn.mk
  refine wpAny_call ?_
  k_dflt (refine' code_def ?k1 ?k2 ?k3 ?k4 ?k5 ?kA ?kF ?kK ?k6 ?k7 ?k8 ?k9 ?kB ?_ ?c2 ?c3 ?c4 ?c5; (case kA => exact rfl); (case kF => exact rfl); (case kK => assumption); (case k1 => k_asm); (case k2 => k_asm); (case k3 => k_asm); (case k4 => k_asm); (case k5 => k_asm); (case k6 => k_is); (case k7 => k_is); (case k8 => ktr_room); (case k9 => exact binds_K (by k_in) rfl (by k_is) rfl rfl rfl); (case c5 => decide); (case kB => exact locs rfl); (case c2 => exact rfl); (case c3 => exact rfl); (case c4 => exact rfl); k_whole; intro g' L' h' FG' F' N' B' X' T'; (try dsimp only); (try k_lift B'); (try k_fold))
  k_steps
  rename RowsIn _ _ _ _ => hR8
  exact hret _ _ _ _ (by k_asm) (by k_asm) hR8
end Mine
open PySem PySem.W PyProof.Rows
set_option Elab.async false
set_option maxRecDepth 100000
set_option maxHeartbeats 1000000
namespace Mine
local macro_rules | `(tactic| walk_at "eval Call") => `(tactic| (k_here; k_dflt (refine Call_ ?_)))
local macro_rules | `(tactic| walk_at "ite") => `(tactic| (k_here; k_openite; first
  | (refine ite_pos (by (simp only [beq_iff_eq, bne_iff_ne, ne_eq, decide_eq_true_eq]; first | assumption | omega)) ?_; walk_say "P+")
  | (refine ite_neg (by (simp only [beq_iff_eq, bne_iff_ne, ne_eq, decide_eq_true_eq]; first | assumption | omega)) ?_; walk_say "P-")))
local macro_rules | `(tactic| walk_at "compareOp In int ref") => `(tactic| (k_here; k_dflt (refine' in_topK ?k1 ?k2 ?k3 ?k4 ?k5 ?k6 ?_; (case k1 => k_asm); (case k2 => k_asm); (case k3 => k_is); (case k4 => rfl); (case k5 => rfl); (case k6 => l_intsW); k_whole); (first | rw [any4] | rw [any5] | rw [any6])))
def wbP (w n : Int) : Int := n - Int.fmod (n - w) 7
theorem C_weekday_before (wd : World) (mean : ExcName → Option Value) (mg mb : Str → Option Value) :
    CbC 50 0 (∀ (news : Led) (w : Int) (tw : Tok) (n : Int) (tn : Tok), CL wd mean mg mb 2 50 news (True) [.int w tw, .int n tn] (fun t => .int (wbP w n) t)) := by
  unfold CbC
  dsimp only [CL, CbRet]
  k_fill
  intro _ w tw n tn
  intros; rename_i hp _ _ hret
  k_with_none
  have c_jwday := C_jwday wd mean mg mb
  dsimp only [CL, CT] at c_jwday
  k_with "call ref" => (k_dflt (refine' (CbC.out c_jwday) _ _ _ _ _ _ _ _ _ _ _ _ _ _ _ _ _ _ _ _ ?k1 ?k2 ?k3 ?k4 ?k5 ?kK ?kp ?kd ?ku ?_); (case k1 => k_asm); (case k2 => k_asm); (case k3 => k_asm); (case k4 => k_asm); (case k5 => k_asm); (case kK => first | exact rfl | assumption); (case kp => (first | trivial | omega | ((try dsimp only); omega) | assumption | l_fact)); (case kd => ktr_room); (case ku => ktr_units); intro t9 h9 tk9 F9 N9; (try dsimp only); (try k_fold))
  k_with "tree" => (simp only [wbP])
  have cbI : CbIn 50 := CbIn.mk
  refine wpAny_call ?_
  k_dflt cell_enter
  k_steps
  all_goals cb_end hret
theorem C_search_weekday (wd : World) (mean : ExcName → Option Value) (mg mb : Str → Option Value) :
    CbC 57 0 (∀ (news : Led) (w : Int) (tw : Tok) (n : Int) (tn : Tok) (di : Int) (tdi : Tok) (of : Int) (tof : Tok), CL wd mean mg mb 3 57 news (-1000 ≤ di ∧ di ≤ 1000 ∧ -1000 ≤ of ∧ of ≤ 1000) [.int w tw, .int n tn, .int di tdi, .int of tof] (fun t => .int (wbP w (n + di * of)) t)) := by
  unfold CbC
  dsimp only [CL, CbRet]
  k_fill
  intro _ w tw n tn di tdi of tof
  intros; rename_i hp _ _ hret
  k_with_none
  have c_weekday_before := C_weekday_before wd mean mg mb
  dsimp only [CL, CT] at c_weekday_before
  k_with "call ref" => (k_dflt (refine' (CbC.out c_weekday_before) _ _ _ _ _ _ _ _ _ _ _ _ _ _ _ _ _ _ _ _ _ _ ?k1 ?k2 ?k3 ?k4 ?k5 ?kK ?kp ?kd ?ku ?_); (case k1 => k_asm); (case k2 => k_asm); (case k3 => k_asm); (case k4 => k_asm); (case k5 => k_asm); (case kK => first | exact rfl | assumption); (case kp => (first | trivial | omega | ((try dsimp only); omega) | assumption | l_fact)); (case kd => ktr_room); (case ku => ktr_units); intro t9 h9 tk9 F9 N9; (try dsimp only); (try k_fold))
  have cbI : CbIn 57 := CbIn.mk
  refine wpAny_call ?_
  k_dflt cell_enter
  k_steps
  all_goals cb_end hret
theorem C_nearest_weekday (wd : World) (mean : ExcName → Option Value) (mg mb : Str → Option Value) :
    CbC 64 0 (∀ (news : Led) (w : Int) (tw : Tok) (n : Int) (tn : Tok), CL wd mean mg mb 4 64 news (True) [.int w tw, .int n tn] (fun t => .int (wbP w (n + 1 * 3)) t)) := by
  unfold CbC
  dsimp only [CL, CbRet]
  k_fill
  intro _ w tw n tn
  intros; rename_i hp _ _ hret
  k_with_none
  have c_search_weekday := C_search_weekday wd mean mg mb
  dsimp only [CL, CT] at c_search_weekday
  k_with "call ref" => (k_dflt (refine' (CbC.out c_search_weekday) _ _ _ _ _ _ _ _ _ _ _ _ _ _ _ _ _ _ _ _ _ _ _ _ _ _ ?k1 ?k2 ?k3 ?k4 ?k5 ?kK ?kp ?kd ?ku ?_); (case k1 => k_asm); (case k2 => k_asm); (case k3 => k_asm); (case k4 => k_asm); (case k5 => k_asm); (case kK => first | exact rfl | assumption); (case kp => (first | trivial | omega | ((try dsimp only); omega) | assumption | l_fact)); (case kd => ktr_room); (case ku => ktr_units); intro t9 h9 tk9 F9 N9; (try dsimp only); (try k_fold))
  have cbI : CbIn 64 := CbIn.mk
  refine wpAny_call ?_
  k_dflt cell_enter
  k_steps
  all_goals cb_end hret
theorem C_next_weekday (wd : World) (mean : ExcName → Option Value) (mg mb : Str → Option Value) :
    CbC 71 0 (∀ (news : Led) (w : Int) (tw : Tok) (n : Int) (tn : Tok), CL wd mean mg mb 4 71 news (True) [.int w tw, .int n tn] (fun t => .int (wbP w (n + 1 * 7)) t)) := by
  unfold CbC
  dsimp only [CL, CbRet]
  k_fill
  intro _ w tw n tn
  intros; rename_i hp _ _ hret
  k_with_none
  have c_search_weekday := C_search_weekday wd mean mg mb
  dsimp only [CL, CT] at c_search_weekday
  k_with "call ref" => (k_dflt (refine' (CbC.out c_search_weekday) _ _ _ _ _ _ _ _ _ _ _ _ _ _ _ _ _ _ _ _ _ _ _ _ _ _ ?k1 ?k2 ?k3 ?k4 ?k5 ?kK ?kp ?kd ?ku ?_); (case k1 => k_asm); (case k2 => k_asm); (case k3 => k_asm); (case k4 => k_asm); (case k5 => k_asm); (case kK => first | exact rfl | assumption); (case kp => (first | trivial | omega | ((try dsimp only); omega) | assumption | l_fact)); (case kd => ktr_room); (case ku => ktr_units); intro t9 h9 tk9 F9 N9; (try dsimp only); (try k_fold))
  have cbI : CbIn 71 := CbIn.mk
  refine wpAny_call ?_
  k_dflt cell_enter
  k_steps
  all_goals cb_end hret
theorem C_previous_weekday (wd : World) (mean : ExcName → Option Value) (mg mb : Str → Option Value) :
    CbC 78 0 (∀ (news : Led) (w : Int) (tw : Tok) (n : Int) (tn : Tok), CL wd mean mg mb 4 78 news (True) [.int w tw, .int n tn] (fun t => .int (wbP w (n + -1 * 1)) t)) := by
  unfold CbC
  dsimp only [CL, CbRet]
  k_fill
  intro _ w tw n tn
  intros; rename_i hp _ _ hret
  k_with_none
  have c_search_weekday := C_search_weekday wd mean mg mb
  dsimp only [CL, CT] at c_search_weekday
  k_with "call ref" => (k_dflt (refine' (CbC.out c_search_weekday) _ _ _ _ _ _ _ _ _ _ _ _ _ _ _ _ _ _ _ _ _ _ _ _ _ _ ?k1 ?k2 ?k3 ?k4 ?k5 ?kK ?kp ?kd ?ku ?_); (case k1 => k_asm); (case k2 => k_asm); (case k3 => k_asm); (case k4 => k_asm); (case k5 => k_asm); (case kK => first | exact rfl | assumption); (case kp => (first | trivial | omega | ((try dsimp only); omega) | assumption | l_fact)); (case kd => ktr_room); (case ku => ktr_units); intro t9 h9 tk9 F9 N9; (try dsimp only); (try k_fold))
  have cbI : CbIn 78 := CbIn.mk
  refine wpAny_call ?_
  k_dflt cell_enter
  k_steps
  all_goals cb_end hret
def w1P (y : Int) : Int := if 3 < Int.fmod (toG y 1 1) 7 then toG y 1 1 - Int.fmod (toG y 1 1) 7 + 7 else toG y 1 1 - Int.fmod (toG y 1 1) 7
theorem w1P_mod (y a : Int) : Int.fmod (a - w1P y) 7 = Int.fmod a 7 := by
  unfold w1P
  simp only [Int.fmod_eq_emod_of_nonneg _ (show (0:Int) ≤ 7 by omega)]
  split <;> omega
theorem C_week1monday (w : World) (mean : ExcName → Option Value) (mg mb : Str → Option Value) :
    CbC 280 0 (∀ (news : Led) (y : Int) (ty : Tok), CL w mean mg mb 4 280 news (True) [.int y ty] (fun t => .int (w1P y) t)) := by
  unfold CbC
  dsimp only [CL, CbRet]
  k_fill
  intro _ y ty
  intros; rename_i hp _ _ hret
  k_with_none
  have c_to_jd_gregorian := C_to_jd_gregorian w mean mg mb
  dsimp only [CL, CT] at c_to_jd_gregorian
  have c_jwday := C_jwday w mean mg mb
  dsimp only [CL, CT] at c_jwday
  k_with "call ref" => (k_dflt (refine' (CbC.out c_to_jd_gregorian) _ _ _ _ _ _ _ _ _ _ _ _ _ _ _ _ _ _ _ _ _ _ _ _ ?k1 ?k2 ?k3 ?k4 ?k5 ?kK ?kp ?kd ?ku ?_); (case k1 => k_asm); (case k2 => k_asm); (case k3 => k_asm); (case k4 => k_asm); (case k5 => k_asm); (case kK => first | exact rfl | assumption); (case kp => (first | trivial | omega | ((try dsimp only); omega) | assumption | l_fact)); (case kd => ktr_room); (case ku => ktr_units); intro t9 h9 tk9 F9 N9; (try dsimp only); (try k_fold))
  k_with "call ref" => (k_dflt (refine' (CbC.out c_jwday) _ _ _ _ _ _ _ _ _ _ _ _ _ _ _ _ _ _ _ _ ?k1 ?k2 ?k3 ?k4 ?k5 ?kK ?kp ?kd ?ku ?_); (case k1 => k_asm); (case k2 => k_asm); (case k3 => k_asm); (case k4 => k_asm); (case k5 => k_asm); (case kK => first | exact rfl | assumption); (case kp => (first | trivial | omega | ((try dsimp only); omega) | assumption | l_fact)); (case kd => ktr_room); (case ku => ktr_units); intro t9 h9 tk9 F9 N9; (try dsimp only); (try k_fold))
  k_with "tree" => (simp only [w1P]; (repeat' split) <;> first | rfl | omega)
  have cbI : CbIn 280 := CbIn.mk
  refine wpAny_call ?_
  k_dflt cell_enter
  k_steps
  all_goals cb_end hret
theorem C_from_gregorian (w : World) (mean : ExcName → Option Value) (mg mb : Str → Option Value) :
    CbC 287 0 (∀ (news : Led) (y : Int) (ty : Tok) (m : Int) (tm : Tok) (d : Int) (td : Tok), CT3 w mean mg mb 5 287 news (1 ≤ m ∧ m ≤ 12 ∧ 1 ≤ d ∧ d ≤ dimG y m ∧ 2 ≤ y ∧ y ≤ 9990) [.int y ty, .int m tm, .int d td] (Int.fmod (toG y m d) 7 + 1)) := by
  unfold CbC
  dsimp only [CT3]
  k_fill
  intro _ y ty m tm d td
  intros; rename_i hp _ _ hret
  k_with_none
  have c_to_jd_gregorian := C_to_jd_gregorian w mean mg mb
  dsimp only [CL, CT] at c_to_jd_gregorian
  have c_month_length_gregorian := C_month_length_gregorian w mean mg mb
  dsimp only [CL, CT] at c_month_length_gregorian
  have c_week1monday := C_week1monday w mean mg mb
  dsimp only [CL, CT] at c_week1monday
  k_with "call ref" => (k_dflt (refine' (CbC.out c_to_jd_gregorian) _ _ _ _ _ _ _ _ _ _ _ _ _ _ _ _ _ _ _ _ _ _ _ _ ?k1 ?k2 ?k3 ?k4 ?k5 ?kK ?kp ?kd ?ku ?_); (case k1 => k_asm); (case k2 => k_asm); (case k3 => k_asm); (case k4 => k_asm); (case k5 => k_asm); (case kK => first | exact rfl | assumption); (case kp => (first | trivial | omega | ((try dsimp only); omega) | assumption | l_fact)); (case kd => ktr_room); (case ku => ktr_units); intro t9 h9 tk9 F9 N9; (try dsimp only); (try k_fold))
  k_with "call ref" => (k_dflt (refine' (CbC.out c_month_length_gregorian) _ _ _ _ _ _ _ _ _ _ _ _ _ _ _ _ _ _ _ _ _ _ ?k1 ?k2 ?k3 ?k4 ?k5 ?kK ?kp ?kd ?ku ?_); (case k1 => k_asm); (case k2 => k_asm); (case k3 => k_asm); (case k4 => k_asm); (case k5 => k_asm); (case kK => first | exact rfl | assumption); (case kp => (first | trivial | omega | ((try dsimp only); omega) | assumption | l_fact)); (case kd => ktr_room); (case ku => ktr_units); intro t9 h9 tk9 F9 N9; (try dsimp only); (try k_fold))
  k_with "call ref" => (k_dflt (refine' (CbC.out c_week1monday) _ _ _ _ _ _ _ _ _ _ _ _ _ _ _ _ _ _ _ _ ?k1 ?k2 ?k3 ?k4 ?k5 ?kK ?kp ?kd ?ku ?_); (case k1 => k_asm); (case k2 => k_asm); (case k3 => k_asm); (case k4 => k_asm); (case k5 => k_asm); (case kK => first | exact rfl | assumption); (case kp => (first | trivial | omega | ((try dsimp only); omega) | assumption | l_fact)); (case kd => ktr_room); (case ku => ktr_units); intro t9 h9 tk9 F9 N9; (try dsimp only); (try k_fold))
  have cbI : CbIn 287 := CbIn.mk
  refine wpAny_call ?_
  k_dflt cell_enter
  k_steps
  all_goals (refine' ct3_ret hret ?j1 ?j2 ?j3 ?j4 ?j5 ?j6; (case j1 => k_asm); (case j2 => k_asm); (case j3 => exact List.Mem.head _); (case j4 => (intro p9 hp9; kcj_m)); (case j5 => (first | (rename _ ∧ _ ∧ _ ∧ AllLt _ _ => q9; exact q9.2.2.2) | (rename _ ∧ _ ∧ AllLt _ _ => q9; exact q9.2.2) | (rename _ ∧ AllLt _ _ => q9; exact q9.2) | exact allLt_of (by assumption) | assumption)); (case j6 => first | (rw [w1P_mod]; done)))
theorem C_from_jd_iso (w : World) (mean : ExcName → Option Value) (mg mb : Str → Option Value) :
    CbC 273 0 (∀ (news : Led) (n : Int) (tn : Tok), CT3 w mean mg mb 6 273 news (2117600 ≤ n ∧ n ≤ 5320000) [.int n tn] (Int.fmod n 7 + 1)) := by
  unfold CbC
  dsimp only [CT3]
  k_fill
  intro _ n tn
  intros; rename_i hp _ _ hret
  k_with_none
  have c_from_jd_gregorian := C_from_jd_gregorian w mean mg mb
  dsimp only [CL, CT] at c_from_jd_gregorian
  k_with "call ref" => (k_dflt (refine' (CbC.out c_from_jd_gregorian) _ _ _ _ _ _ _ _ _ _ _ _ _ _ _ _ _ _ _ _ ?k1 ?k2 ?k3 ?k4 ?k5 ?kK ?kp ?kd ?ku ?_); (case k1 => k_asm); (case k2 => k_asm); (case k3 => k_asm); (case k4 => k_asm); (case k5 => k_asm); (case kK => first | exact rfl | assumption); (case kp => (first | trivial | omega | ((try dsimp only); omega) | assumption | l_fact)); (case kd => ktr_room); (case ku => ktr_units); intro D9 t91 t92 t93 n9 h9 tk9 F9 N9 l9; (try dsimp only); (try k_fold))
  have c_from_gregorian := C_from_gregorian w mean mg mb
  dsimp only [CT3] at c_from_gregorian
  have hi := fg_inv n (by omega)
  have hq := fg_legal n (by omega)
  k_with "call ref" => (k_dflt (refine' (CbC.out c_from_gregorian) _ _ _ _ _ _ _ _ _ _ _ _ _ _ _ _ _ _ _ _ _ _ _ _ ?k1 ?k2 ?k3 ?k4 ?k5 ?kK ?kp ?kd ?ku ?_); (case k1 => k_asm); (case k2 => k_asm); (case k3 => k_asm); (case k4 => k_asm); (case k5 => k_asm); (case kK => first | exact rfl | assumption); (case kp => omega); (case kd => ktr_room); (case ku => ktr_units); intro D9 x9 y9 t91 t92 t93 n9 h9 tk9 F9 N9 l9; (try dsimp only); (try k_fold))
  have cbI : CbIn 273 := CbIn.mk
  refine wpAny_call ?_
  k_dflt cell_enter
  k_steps
  all_goals (refine' ct3_ret hret ?j1 ?j2 ?j3 ?j4 ?j5 ?j6; (case j1 => k_asm); (case j2 => k_asm); (case j3 => exact List.Mem.head _); (case j4 => (intro p9 hp9; kcj_m)); (case j5 => (first | (rename _ ∧ _ ∧ _ ∧ AllLt _ _ => q9; exact q9.2.2.2) | (rename _ ∧ _ ∧ AllLt _ _ => q9; exact q9.2.2) | (rename _ ∧ AllLt _ _ => q9; exact q9.2) | exact allLt_of (by assumption) | assumption)); (case j6 => (rw [hi])))
end Mine
open PySem PySem.W PyProof.Rows
set_option Elab.async false
set_option maxRecDepth 100000
set_option maxHeartbeats 1000000
namespace Mine
local macro_rules | `(tactic| walk_at "eval Call") => `(tactic| (k_here; k_dflt (refine Call_ ?_)))
local macro_rules | `(tactic| walk_at "ite") => `(tactic| (k_here; k_openite; first
  | (refine ite_pos (by (simp only [beq_iff_eq, bne_iff_ne, ne_eq, decide_eq_true_eq]; first | assumption | omega)) ?_; walk_say "P+")
  | (refine ite_neg (by (simp only [beq_iff_eq, bne_iff_ne, ne_eq, decide_eq_true_eq]; first | assumption | omega)) ?_; walk_say "P-")))
local macro_rules | `(tactic| walk_at "compareOp In int ref") => `(tactic| (k_here; k_dflt (refine' in_topK ?k1 ?k2 ?k3 ?k4 ?k5 ?k6 ?_; (case k1 => k_asm); (case k2 => k_asm); (case k3 => k_is); (case k4 => rfl); (case k5 => rfl); (case k6 => l_intsW); k_whole); (first | rw [any4] | rw [any5] | rw [any6])))
set_option maxHeartbeats 2000000
def dY (k n : Int) : Int := if k = 0 then fgY n else if k = 1 then fjY n else if k = 2 then fiY n else if k = 3 then fcY n else if k = 4 then fnY n else if k = 5 then faY n else fsY n
def dM (k n : Int) : Int := if k = 0 then fgM n else if k = 1 then fjM n else if k = 2 then fiM n else if k = 3 then fcM n else if k = 4 then fnM n else if k = 5 then faM n else fsM n
def dD (k n : Int) : Int := if k = 0 then fgD n else if k = 1 then fjD n else if k = 2 then fiD n else if k = 3 then fcD n else if k = 4 then fnD n else if k = 5 then faD n else fsD n
def dimK (k y m : Int) : Int := if k = 0 then dimG y m else if k = 1 then dimJ y m else if k = 2 then dimI y m else if k = 3 then dimC y m else if k = 4 then dimN y m else if k = 5 then dimA m else dimS y m
def numK (k y m d : Int) : Int := if k = 0 then toG y m d else if k = 1 then toJu y m d else if k = 2 then toI y m d else if k = 3 then toC y m d else if k = 4 then toN y m d else if k = 5 then toA y m d else toS y m d
theorem dY_0 (n : Int) : dY 0 n = fgY n := by simp [dY]
theorem dY_1 (n : Int) : dY 1 n = fjY n := by simp [dY]
theorem dY_2 (n : Int) : dY 2 n = fiY n := by simp [dY]
theorem dY_3 (n : Int) : dY 3 n = fcY n := by simp [dY]
theorem dY_4 (n : Int) : dY 4 n = fnY n := by simp [dY]
theorem dY_5 (n : Int) : dY 5 n = faY n := by simp [dY]
theorem dY_6 (n : Int) : dY 6 n = fsY n := by simp [dY]
theorem dM_0 (n : Int) : dM 0 n = fgM n := by simp [dM]
theorem dM_1 (n : Int) : dM 1 n = fjM n := by simp [dM]
theorem dM_2 (n : Int) : dM 2 n = fiM n := by simp [dM]
theorem dM_3 (n : Int) : dM 3 n = fcM n := by simp [dM]
theorem dM_4 (n : Int) : dM 4 n = fnM n := by simp [dM]
theorem dM_5 (n : Int) : dM 5 n = faM n := by simp [dM]
theorem dM_6 (n : Int) : dM 6 n = fsM n := by simp [dM]
theorem dD_0 (n : Int) : dD 0 n = fgD n := by simp [dD]
theorem dD_1 (n : Int) : dD 1 n = fjD n := by simp [dD]
theorem dD_2 (n : Int) : dD 2 n = fiD n := by simp [dD]
theorem dD_3 (n : Int) : dD 3 n = fcD n := by simp [dD]
theorem dD_4 (n : Int) : dD 4 n = fnD n := by simp [dD]
theorem dD_5 (n : Int) : dD 5 n = faD n := by simp [dD]
theorem dD_6 (n : Int) : dD 6 n = fsD n := by simp [dD]
theorem dimK_0 (y m : Int) : dimK 0 y m = dimG y m := by simp [dimK]
theorem dimK_1 (y m : Int) : dimK 1 y m = dimJ y m := by simp [dimK]
theorem dimK_2 (y m : Int) : dimK 2 y m = dimI y m := by simp [dimK]
theorem dimK_3 (y m : Int) : dimK 3 y m = dimC y m := by simp [dimK]
theorem dimK_4 (y m : Int) : dimK 4 y m = dimN y m := by simp [dimK]
theorem dimK_5 (y m : Int) : dimK 5 y m = dimA m := by simp [dimK]
theorem dimK_6 (y m : Int) : dimK 6 y m = dimS y m := by simp [dimK]
theorem numK_0 (y m d : Int) : numK 0 y m d = toG y m d := by simp [numK]
theorem numK_1 (y m d : Int) : numK 1 y m d = toJu y m d := by simp [numK]
theorem numK_2 (y m d : Int) : numK 2 y m d = toI y m d := by simp [numK]
theorem numK_3 (y m d : Int) : numK 3 y m d = toC y m d := by simp [numK]
theorem numK_4 (y m d : Int) : numK 4 y m d = toN y m d := by simp [numK]
theorem numK_5 (y m d : Int) : numK 5 y m d = toA y m d := by simp [numK]
theorem numK_6 (y m d : Int) : numK 6 y m d = toS y m d := by simp [numK]
def LegM (k y m : Int) : Prop := 1 ≤ m ∧ (k ≤ 1 → m ≤ 12) ∧ m ≤ 13 ∧ (k = 5 → 1 ≤ y) ∧ (k = 6 → 533 ≤ y)
theorem dimS_leap (y d : Int) (h : d ≤ dimS y 13) : d ≤ 5 ∨ (d = 6 ∧ leapA y = true) := by
  unfold dimS at h
  cases hL : leapA y
  · simp [hL] at h; omega
  · simp [hL] at h; by_cases h6 : d = 6
    · exact .inr ⟨h6, rfl⟩
    · exact .inl (by omega)
theorem dimA_13 (m d : Int) (h : d ≤ dimA m) : m = 13 → d ≤ 5 := by rintro rfl; simpa [dimA] using h
theorem dimS_13 (y m d : Int) (h : d ≤ dimS y m) : m = 13 → d ≤ 5 ∨ (d = 6 ∧ leapA y = true) := by rintro rfl; exact dimS_leap y d h
theorem C_law_date (w : World) (mean : ExcName → Option Value) (mg mb : Str → Option Value) :
    CbC 337 0 (∀ (news : Led) (k : Int) (tk : Tok) (n : Int) (tn : Tok), CT w mean mg mb 6 337 news (0 ≤ k ∧ k ≤ 6 ∧ 2117600 ≤ n ∧ n ≤ 5400000) [.int k tk, .int n tn] (dY k n) (dM k n) (dD k n)) := by
  unfold CbC
  dsimp only [CT]
  k_fill
  intro _ k tk n tn
  intros; rename_i hp _ _ hret
  k_with_none
  have c_from_jd_gregorian := C_from_jd_gregorian w mean mg mb
  dsimp only [CL, CT] at c_from_jd_gregorian
  have c_from_jd_julian := C_from_jd_julian w mean mg mb
  dsimp only [CL, CT] at c_from_jd_julian
  have c_from_jd_islamic := C_from_jd_islamic w mean mg mb
  dsimp only [CL, CT] at c_from_jd_islamic
  have c_from_jd_coptic := C_from_jd_coptic w mean mg mb
  dsimp only [CL, CT] at c_from_jd_coptic
  have c_from_jd_indian_civil := C_from_jd_indian_civil w mean mg mb
  dsimp only [CL, CT] at c_from_jd_indian_civil
  have c_from_jd_armenian := C_from_jd_armenian w mean mg mb
  dsimp only [CL, CT] at c_from_jd_armenian
  have c_from_jd_armenianS := C_from_jd_armenianS w mean mg mb
  dsimp only [CL, CT] at c_from_jd_armenianS
  k_with "call ref" => (k_dflt (refine' (CbC.out c_from_jd_gregorian) _ _ _ _ _ _ _ _ _ _ _ _ _ _ _ _ _ _ _ _ ?k1 ?k2 ?k3 ?k4 ?k5 ?kK ?kp ?kd ?ku ?_); (case k1 => k_asm); (case k2 => k_asm); (case k3 => k_asm); (case k4 => k_asm); (case k5 => k_asm); (case kK => first | exact rfl | assumption); (case kp => (first | trivial | omega | ((try dsimp only); omega) | assumption | l_fact)); (case kd => ktr_room); (case ku => ktr_units); intro D9 t91 t92 t93 n9 h9 tk9 F9 N9 l9; (try dsimp only); (try k_fold))
  k_with "call ref" => (k_dflt (refine' (CbC.out c_from_jd_julian) _ _ _ _ _ _ _ _ _ _ _ _ _ _ _ _ _ _ _ _ ?k1 ?k2 ?k3 ?k4 ?k5 ?kK ?kp ?kd ?ku ?_); (case k1 => k_asm); (case k2 => k_asm); (case k3 => k_asm); (case k4 => k_asm); (case k5 => k_asm); (case kK => first | exact rfl | assumption); (case kp => (first | trivial | omega | ((try dsimp only); omega) | assumption | l_fact)); (case kd => ktr_room); (case ku => ktr_units); intro D9 t91 t92 t93 n9 h9 tk9 F9 N9 l9; (try dsimp only); (try k_fold))
  k_with "call ref" => (k_dflt (refine' (CbC.out c_from_jd_islamic) _ _ _ _ _ _ _ _ _ _ _ _ _ _ _ _ _ _ _ _ ?k1 ?k2 ?k3 ?k4 ?k5 ?kK ?kp ?kd ?ku ?_); (case k1 => k_asm); (case k2 => k_asm); (case k3 => k_asm); (case k4 => k_asm); (case k5 => k_asm); (case kK => first | exact rfl | assumption); (case kp => (first | trivial | omega | ((try dsimp only); omega) | assumption | l_fact)); (case kd => ktr_room); (case ku => ktr_units); intro D9 t91 t92 t93 n9 h9 tk9 F9 N9 l9; (try dsimp only); (try k_fold))
  k_with "call ref" => (k_dflt (refine' (CbC.out c_from_jd_coptic) _ _ _ _ _ _ _ _ _ _ _ _ _ _ _ _ _ _ _ _ ?k1 ?k2 ?k3 ?k4 ?k5 ?kK ?kp ?kd ?ku ?_); (case k1 => k_asm); (case k2 => k_asm); (case k3 => k_asm); (case k4 => k_asm); (case k5 => k_asm); (case kK => first | exact rfl | assumption); (case kp => (first | trivial | omega | ((try dsimp only); omega) | assumption | l_fact)); (case kd => ktr_room); (case ku => ktr_units); intro D9 t91 t92 t93 n9 h9 tk9 F9 N9 l9; (try dsimp only); (try k_fold))
  k_with "call ref" => (k_dflt (refine' (CbC.out c_from_jd_indian_civil) _ _ _ _ _ _ _ _ _ _ _ _ _ _ _ _ _ _ _ _ ?k1 ?k2 ?k3 ?k4 ?k5 ?kK ?kp ?kd ?ku ?_); (case k1 => k_asm); (case k2 => k_asm); (case k3 => k_asm); (case k4 => k_asm); (case k5 => k_asm); (case kK => first | exact rfl | assumption); (case kp => (first | trivial | omega | ((try dsimp only); omega) | assumption | l_fact)); (case kd => ktr_room); (case ku => ktr_units); intro D9 t91 t92 t93 n9 h9 tk9 F9 N9 l9; (try dsimp only); (try k_fold))
  k_with "call ref" => (k_dflt (refine' (CbC.out c_from_jd_armenian) _ _ _ _ _ _ _ _ _ _ _ _ _ _ _ _ _ _ _ _ ?k1 ?k2 ?k3 ?k4 ?k5 ?kK ?kp ?kd ?ku ?_); (case k1 => k_asm); (case k2 => k_asm); (case k3 => k_asm); (case k4 => k_asm); (case k5 => k_asm); (case kK => first | exact rfl | assumption); (case kp => (first | trivial | omega | ((try dsimp only); omega) | assumption | l_fact)); (case kd => ktr_room); (case ku => ktr_units); intro D9 t91 t92 t93 n9 h9 tk9 F9 N9 l9; (try dsimp only); (try k_fold))
  k_with "call ref" => (k_dflt (refine' (CbC.out c_from_jd_armenianS) _ _ _ _ _ _ _ _ _ _ _ _ _ _ _ _ _ _ _ _ _ ?k1 ?k2 ?k3 ?k4 ?k5 ?kK ?kp ?kd ?ku ?_); (case k1 => k_asm); (case k2 => k_asm); (case k3 => k_asm); (case k4 => k_asm); (case k5 => k_asm); (case kK => first | exact rfl | assumption); (case kp => (first | trivial | omega | ((try dsimp only); omega) | assumption | l_fact)); (case kd => ktr_room); (case ku => ktr_units); intro D9 t91 t92 t93 n9 h9 tk9 F9 N9 l9; (try dsimp only); (try k_fold))
  have cbI : CbIn 337 := CbIn.mk
  have hk : k = 0 ∨ k = 1 ∨ k = 2 ∨ k = 3 ∨ k = 4 ∨ k = 5 ∨ k = 6 := by omega
  rcases hk with rfl | rfl | rfl | rfl | rfl | rfl | rfl
  all_goals refine wpAny_call ?_
  all_goals k_dflt cell_enter
  all_goals k_steps
  all_goals (refine' ct_retM hret ?j1 ?j2 ?j3 ?j4 ?j5 ?j6 ?j7 ?j8; (case j1 => k_asm); (case j2 => k_asm); (case j3 => exact List.Mem.head _); (case j4 => (intro p9 hp9; kcj_m)); (case j5 => (first | (rename _ ∧ _ ∧ _ ∧ AllLt _ _ => q9; exact q9.2.2) | (rename _ ∧ _ ∧ AllLt _ _ => q9; exact q9.2.2) | (rename _ ∧ AllLt _ _ => q9; exact q9.2) | exact allLt_of (by assumption) | assumption)); (case j6 => simp only [dY_0, dY_1, dY_2, dY_3, dY_4, dY_5, dY_6]); (case j7 => simp only [dM_0, dM_1, dM_2, dM_3, dM_4, dM_5, dM_6]); (case j8 => simp only [dD_0, dD_1, dD_2, dD_3, dD_4, dD_5, dD_6]))
theorem C_law_number (w : World) (mean : ExcName → Option Value) (mg mb : Str → Option Value) :
    CbC 351 0 (∀ (news : Led) (k : Int) (tk : Tok) (y : Int) (ty : Tok) (m : Int) (tm : Tok) (d : Int) (td : Tok), CL w mean mg mb 6 351 news (0 ≤ k ∧ k ≤ 6 ∧ LegM k y m ∧ 1 ≤ d ∧ d ≤ dimK k y m) [.int k tk, .int y ty, .int m tm, .int d td] (fun t => .int (numK k y m d) t)) := by
  unfold CbC
  dsimp only [CL, CbRet]
  k_fill
  intro _ k tk y ty m tm d td
  intros; rename_i hp _ _ hret
  k_with_none
  have c_to_jd_gregorian := C_to_jd_gregorian w mean mg mb
  dsimp only [CL, CT] at c_to_jd_gregorian
  have c_to_jd_julian := C_to_jd_julian w mean mg mb
  dsimp only [CL, CT] at c_to_jd_julian
  have c_to_jd_islamic := C_to_jd_islamic w mean mg mb
  dsimp only [CL, CT] at c_to_jd_islamic
  have c_to_jd_coptic := C_to_jd_coptic w mean mg mb
  dsimp only [CL, CT] at c_to_jd_coptic
  have c_to_jd_indian_civil := C_to_jd_indian_civil w mean mg mb
  dsimp only [CL, CT] at c_to_jd_indian_civil
  have c_to_jd_armenian3 := C_to_jd_armenian3 w mean mg mb
  dsimp only [CL, CT] at c_to_jd_armenian3
  have c_to_jd_armenianS := C_to_jd_armenianS w mean mg mb
  dsimp only [CL, CT] at c_to_jd_armenianS
  k_with "call ref" => (k_dflt (refine' (CbC.out c_to_jd_gregorian) _ _ _ _ _ _ _ _ _ _ _ _ _ _ _ _ _ _ _ _ _ _ _ _ ?k1 ?k2 ?k3 ?k4 ?k5 ?kK ?kp ?kd ?ku ?_); (case k1 => k_asm); (case k2 => k_asm); (case k3 => k_asm); (case k4 => k_asm); (case k5 => k_asm); (case kK => first | exact rfl | assumption); (case kp => (first | trivial | omega | (unfold LegM at hp; first | omega | exact ⟨by omega, by omega, by omega, by omega, by (have := dimA_range m; omega), dimA_13 m d (by omega)⟩ | exact ⟨by omega, by omega, by omega, by omega, by (have := dimS_range y m; omega), dimS_13 y m d (by omega)⟩))); (case kd => ktr_room); (case ku => ktr_units); intro t9 h9 tk9 F9 N9; (try dsimp only); (try k_fold))
  k_with "call ref" => (k_dflt (refine' (CbC.out c_to_jd_julian) _ _ _ _ _ _ _ _ _ _ _ _ _ _ _ _ _ _ _ _ _ _ _ _ ?k1 ?k2 ?k3 ?k4 ?k5 ?kK ?kp ?kd ?ku ?_); (case k1 => k_asm); (case k2 => k_asm); (case k3 => k_asm); (case k4 => k_asm); (case k5 => k_asm); (case kK => first | exact rfl | assumption); (case kp => (first | trivial | omega | (unfold LegM at hp; first | omega | exact ⟨by omega, by omega, by omega, by omega, by (have := dimA_range m; omega), dimA_13 m d (by omega)⟩ | exact ⟨by omega, by omega, by omega, by omega, by (have := dimS_range y m; omega), dimS_13 y m d (by omega)⟩))); (case kd => ktr_room); (case ku => ktr_units); intro t9 h9 tk9 F9 N9; (try dsimp only); (try k_fold))
  k_with "call ref" => (k_dflt (refine' (CbC.out c_to_jd_islamic) _ _ _ _ _ _ _ _ _ _ _ _ _ _ _ _ _ _ _ _ _ _ _ _ ?k1 ?k2 ?k3 ?k4 ?k5 ?kK ?kp ?kd ?ku ?_); (case k1 => k_asm); (case k2 => k_asm); (case k3 => k_asm); (case k4 => k_asm); (case k5 => k_asm); (case kK => first | exact rfl | assumption); (case kp => (first | trivial | omega | (unfold LegM at hp; first | omega | exact ⟨by omega, by omega, by omega, by omega, by (have := dimA_range m; omega), dimA_13 m d (by omega)⟩ | exact ⟨by omega, by omega, by omega, by omega, by (have := dimS_range y m; omega), dimS_13 y m d (by omega)⟩))); (case kd => ktr_room); (case ku => ktr_units); intro t9 h9 tk9 F9 N9; (try dsimp only); (try k_fold))
  k_with "call ref" => (k_dflt (refine' (CbC.out c_to_jd_coptic) _ _ _ _ _ _ _ _ _ _ _ _ _ _ _ _ _ _ _ _ _ _ _ _ ?k1 ?k2 ?k3 ?k4 ?k5 ?kK ?kp ?kd ?ku ?_); (case k1 => k_asm); (case k2 => k_asm); (case k3 => k_asm); (case k4 => k_asm); (case k5 => k_asm); (case kK => first | exact rfl | assumption); (case kp => (first | trivial | omega | (unfold LegM at hp; first | omega | exact ⟨by omega, by omega, by omega, by omega, by (have := dimA_range m; omega), dimA_13 m d (by omega)⟩ | exact ⟨by omega, by omega, by omega, by omega, by (have := dimS_range y m; omega), dimS_13 y m d (by omega)⟩))); (case kd => ktr_room); (case ku => ktr_units); intro t9 h9 tk9 F9 N9; (try dsimp only); (try k_fold))
  k_with "call ref" => (k_dflt (refine' (CbC.out c_to_jd_indian_civil) _ _ _ _ _ _ _ _ _ _ _ _ _ _ _ _ _ _ _ _ _ _ _ _ ?k1 ?k2 ?k3 ?k4 ?k5 ?kK ?kp ?kd ?ku ?_); (case k1 => k_asm); (case k2 => k_asm); (case k3 => k_asm); (case k4 => k_asm); (case k5 => k_asm); (case kK => first | exact rfl | assumption); (case kp => (first | trivial | omega | (unfold LegM at hp; first | omega | exact ⟨by omega, by omega, by omega, by omega, by (have := dimA_range m; omega), dimA_13 m d (by omega)⟩ | exact ⟨by omega, by omega, by omega, by omega, by (have := dimS_range y m; omega), dimS_13 y m d (by omega)⟩))); (case kd => ktr_room); (case ku => ktr_units); intro t9 h9 tk9 F9 N9; (try dsimp only); (try k_fold))
  k_with "call ref" => (k_dflt (refine' (CbC.out c_to_jd_armenian3) _ _ _ _ _ _ _ _ _ _ _ _ _ _ _ _ _ _ _ _ _ _ _ _ ?k1 ?k2 ?k3 ?k4 ?k5 ?kK ?kp ?kd ?ku ?_); (case k1 => k_asm); (case k2 => k_asm); (case k3 => k_asm); (case k4 => k_asm); (case k5 => k_asm); (case kK => first | exact rfl | assumption); (case kp => (first | trivial | omega | (unfold LegM at hp; first | omega | exact ⟨by omega, by omega, by omega, by omega, by (have := dimA_range m; omega), dimA_13 m d (by omega)⟩ | exact ⟨by omega, by omega, by omega, by omega, by (have := dimS_range y m; omega), dimS_13 y m d (by omega)⟩))); (case kd => ktr_room); (case ku => ktr_units); intro t9 h9 tk9 F9 N9; (try dsimp only); (try k_fold))
  k_with "call ref" => (k_dflt (refine' (CbC.out c_to_jd_armenianS) _ _ _ _ _ _ _ _ _ _ _ _ _ _ _ _ _ _ _ _ _ _ _ _ _ ?k1 ?k2 ?k3 ?k4 ?k5 ?kK ?kp ?kd ?ku ?_); (case k1 => k_asm); (case k2 => k_asm); (case k3 => k_asm); (case k4 => k_asm); (case k5 => k_asm); (case kK => first | exact rfl | assumption); (case kp => (first | trivial | omega | (unfold LegM at hp; first | omega | exact ⟨by omega, by omega, by omega, by omega, by (have := dimA_range m; omega), dimA_13 m d (by omega)⟩ | exact ⟨by omega, by omega, by omega, by omega, by (have := dimS_range y m; omega), dimS_13 y m d (by omega)⟩))); (case kd => ktr_room); (case ku => ktr_units); intro t9 h9 tk9 F9 N9; (try dsimp only); (try k_fold))
  have cbI : CbIn 351 := CbIn.mk
  have hk : k = 0 ∨ k = 1 ∨ k = 2 ∨ k = 3 ∨ k = 4 ∨ k = 5 ∨ k = 6 := by omega
  rcases hk with rfl | rfl | rfl | rfl | rfl | rfl | rfl
  all_goals simp only [dimK_0, dimK_1, dimK_2, dimK_3, dimK_4, dimK_5, dimK_6, numK_0, numK_1, numK_2, numK_3, numK_4, numK_5, numK_6] at hp hret
  all_goals refine wpAny_call ?_
  all_goals k_dflt cell_enter
  all_goals k_steps
  all_goals (first | cb_end hret)
theorem C_law_leaf (w : World) (mean : ExcName → Option Value) (mg mb : Str → Option Value) :
    CbC 344 0 (∀ (news : Led) (k : Int) (tk : Tok) (y : Int) (ty : Tok) (m : Int) (tm : Tok), CR w mean mg mb 8 344 news (0 ≤ k ∧ k ≤ 6 ∧ LegM k y m) [.int k tk, .int y ty, .int m tm] (Int.fmod (Int.fmod (numK k y m 1) 7 + 1) 7).toNat (dimK k y m).toNat) := by
  unfold CbC
  dsimp only [CR]
  k_fill
  intro _ k tk y ty m tm
  intros; rename_i hp _ _ hret
  k_with_none
  have c_monthcalendar_gregorian := C_monthcalendar_gregorian w mean mg mb
  dsimp only [CR] at c_monthcalendar_gregorian
  have c_monthcalendar_julian := C_monthcalendar_julian w mean mg mb
  dsimp only [CR] at c_monthcalendar_julian
  have c_monthcalendar_islamic := C_monthcalendar_islamic w mean mg mb
  dsimp only [CR] at c_monthcalendar_islamic
  have c_monthcalendar_coptic := C_monthcalendar_coptic w mean mg mb
  dsimp only [CR] at c_monthcalendar_coptic
  have c_monthcalendar_indian_civil := C_monthcalendar_indian_civil w mean mg mb
  dsimp only [CR] at c_monthcalendar_indian_civil
  have c_monthcalendar_armenian2 := C_monthcalendar_armenian2 w mean mg mb
  dsimp only [CR] at c_monthcalendar_armenian2
  have c_monthcalendar_armenianS := C_monthcalendar_armenianS w mean mg mb
  dsimp only [CR] at c_monthcalendar_armenianS
  k_with "call ref" => (k_dflt (refine' (CbC.out c_monthcalendar_gregorian) _ _ _ _ _ _ _ _ _ _ _ _ _ _ _ _ _ _ _ _ _ _ ?k1 ?k2 ?k3 ?k4 ?k5 ?kK ?kp ?kd ?ku ?_); (case k1 => k_asm); (case k2 => k_asm); (case k3 => k_asm); (case k4 => k_asm); (case k5 => k_asm); (case kK => first | exact rfl | assumption); (case kp => (first | trivial | (unfold LegM at hp; omega))); (case kd => ktr_room); (case ku => ktr_units); intro R9 made9 h9 tk9 F9 N9 hR9; (try dsimp only); (try k_fold))
  k_with "call ref" => (k_dflt (refine' (CbC.out c_monthcalendar_julian) _ _ _ _ _ _ _ _ _ _ _ _ _ _ _ _ _ _ _ _ _ _ ?k1 ?k2 ?k3 ?k4 ?k5 ?kK ?kp ?kd ?ku ?_); (case k1 => k_asm); (case k2 => k_asm); (case k3 => k_asm); (case k4 => k_asm); (case k5 => k_asm); (case kK => first | exact rfl | assumption); (case kp => (first | trivial | (unfold LegM at hp; omega))); (case kd => ktr_room); (case ku => ktr_units); intro R9 made9 h9 tk9 F9 N9 hR9; (try dsimp only); (try k_fold))
  k_with "call ref" => (k_dflt (refine' (CbC.out c_monthcalendar_islamic) _ _ _ _ _ _ _ _ _ _ _ _ _ _ _ _ _ _ _ _ _ _ ?k1 ?k2 ?k3 ?k4 ?k5 ?kK ?kp ?kd ?ku ?_); (case k1 => k_asm); (case k2 => k_asm); (case k3 => k_asm); (case k4 => k_asm); (case k5 => k_asm); (case kK => first | exact rfl | assumption); (case kp => (first | trivial | (unfold LegM at hp; omega))); (case kd => ktr_room); (case ku => ktr_units); intro R9 made9 h9 tk9 F9 N9 hR9; (try dsimp only); (try k_fold))
  k_with "call ref" => (k_dflt (refine' (CbC.out c_monthcalendar_coptic) _ _ _ _ _ _ _ _ _ _ _ _ _ _ _ _ _ _ _ _ _ _ ?k1 ?k2 ?k3 ?k4 ?k5 ?kK ?kp ?kd ?ku ?_); (case k1 => k_asm); (case k2 => k_asm); (case k3 => k_asm); (case k4 => k_asm); (case k5 => k_asm); (case kK => first | exact rfl | assumption); (case kp => (first | trivial | (unfold LegM at hp; omega))); (case kd => ktr_room); (case ku => ktr_units); intro R9 made9 h9 tk9 F9 N9 hR9; (try dsimp only); (try k_fold))
  k_with "call ref" => (k_dflt (refine' (CbC.out c_monthcalendar_indian_civil) _ _ _ _ _ _ _ _ _ _ _ _ _ _ _ _ _ _ _ _ _ _ ?k1 ?k2 ?k3 ?k4 ?k5 ?kK ?kp ?kd ?ku ?_); (case k1 => k_asm); (case k2 => k_asm); (case k3 => k_asm); (case k4 => k_asm); (case k5 => k_asm); (case kK => first | exact rfl | assumption); (case kp => (first | trivial | (unfold LegM at hp; omega))); (case kd => ktr_room); (case ku => ktr_units); intro R9 made9 h9 tk9 F9 N9 hR9; (try dsimp only); (try k_fold))
  k_with "call ref" => (k_dflt (refine' (CbC.out c_monthcalendar_armenian2) _ _ _ _ _ _ _ _ _ _ _ _ _ _ _ _ _ _ _ _ _ _ ?k1 ?k2 ?k3 ?k4 ?k5 ?kK ?kp ?kd ?ku ?_); (case k1 => k_asm); (case k2 => k_asm); (case k3 => k_asm); (case k4 => k_asm); (case k5 => k_asm); (case kK => first | exact rfl | assumption); (case kp => (first | trivial | (unfold LegM at hp; omega))); (case kd => ktr_room); (case ku => ktr_units); intro R9 made9 h9 tk9 F9 N9 hR9; (try dsimp only); (try k_fold))
  k_with "call ref" => (k_dflt (refine' (CbC.out c_monthcalendar_armenianS) _ _ _ _ _ _ _ _ _ _ _ _ _ _ _ _ _ _ _ _ _ _ _ ?k1 ?k2 ?k3 ?k4 ?k5 ?kK ?kp ?kd ?ku ?_); (case k1 => k_asm); (case k2 => k_asm); (case k3 => k_asm); (case k4 => k_asm); (case k5 => k_asm); (case kK => first | exact rfl | assumption); (case kp => (first | trivial | (unfold LegM at hp; omega))); (case kd => ktr_room); (case ku => ktr_units); intro R9 made9 h9 tk9 F9 N9 hR9; (try dsimp only); (try k_fold))
  have cbI : CbIn 344 := CbIn.mk
  have hk : k = 0 ∨ k = 1 ∨ k = 2 ∨ k = 3 ∨ k = 4 ∨ k = 5 ∨ k = 6 := by omega
  rcases hk with rfl | rfl | rfl | rfl | rfl | rfl | rfl
  all_goals simp only [dimK_0, dimK_1, dimK_2, dimK_3, dimK_4, dimK_5, dimK_6, numK_0, numK_1, numK_2, numK_3, numK_4, numK_5, numK_6] at hp hret
  all_goals refine wpAny_call ?_
  all_goals k_dflt cell_enter
  all_goals k_steps
  all_goals (rename RowsIn _ _ _ _ => hR8; exact hret _ _ _ _ (by k_asm) (by k_asm) hR8)
end Mine
open PySem PySem.W PyProof.Rows
set_option Elab.async false
namespace Mine
theorem facts (k n : Int) (h : 0 ≤ k ∧ k ≤ 6) (hn : 2117600 ≤ n ∧ n ≤ 5317599) :
    LegM k (dY k n) (dM k n) ∧ (¬ (k = 4 ∧ dM k n = 1) → 1 ≤ dD k n ∧ dD k n ≤ dimK k (dY k n) (dM k n)) ∧ numK k (dY k n) (dM k n) (dD k n) = n := by
  have hk : k = 0 ∨ k = 1 ∨ k = 2 ∨ k = 3 ∨ k = 4 ∨ k = 5 ∨ k = 6 := by omega
  unfold LegM
  rcases hk with rfl | rfl | rfl | rfl | rfl | rfl | rfl
  all_goals simp only [dY_0, dY_1, dY_2, dY_3, dY_4, dY_5, dY_6, dM_0, dM_1, dM_2, dM_3, dM_4, dM_5, dM_6, dD_0, dD_1, dD_2, dD_3, dD_4, dD_5, dD_6, dimK_0, dimK_1, dimK_2, dimK_3, dimK_4, dimK_5, dimK_6, numK_0, numK_1, numK_2, numK_3, numK_4, numK_5, numK_6]
  · obtain ⟨a, b, c⟩ := facts_0 n
    exact ⟨by omega, fun _ => b, c⟩
  · obtain ⟨a, b, c⟩ := facts_1 n
    exact ⟨by omega, fun _ => b, c⟩
  · obtain ⟨a, b, c⟩ := facts_2 n
    exact ⟨by omega, fun _ => b, c⟩
  · obtain ⟨a, b, c⟩ := facts_3 n
    exact ⟨by omega, fun _ => b, c⟩
  · obtain ⟨a, b, c⟩ := facts_4 n
    exact ⟨by omega, fun q => ⟨b.1, b.2 (fun e => q ⟨trivial, e⟩)⟩, c⟩
  · obtain ⟨a, b, c⟩ := facts_5 n hn.1
    exact ⟨by omega, fun _ => b, c⟩
  · obtain ⟨a, b, c⟩ := facts_6 n hn.1
    exact ⟨by omega, fun _ => b, c⟩
theorem toN_lin (y m d : Int) : toN y m d = toN y m 1 + (d - 1) := by unfold toN; split <;> omega
theorem toA_lin (y m d : Int) : toA y m d = toA y m 1 + (d - 1) := by unfold toA; omega
theorem toS_lin (y m d : Int) : toS y m d = toS y m 1 + (d - 1) := by unfold toS; omega
theorem toG_lin (y m d : Int) : toG y m d = toG y m 1 + (d - 1) := by rw [toG_eq, toG_eq]; omega
theorem toI_lin (y m d : Int) : toI y m d = toI y m 1 + (d - 1) := by rw [toI_eq, toI_eq]; omega
theorem toC_lin (y m d : Int) : toC y m d = toC y m 1 + (d - 1) := by unfold toC; omega
theorem toJu_lin (y m d : Int) : toJu y m d = toJu y m 1 + (d - 1) := by unfold toJu; generalize Int.fdiv (1461 * _) 4 = a; generalize Int.fdiv (306001 * _) 10000 = b; omega
theorem numK_lin (k y m d : Int) : numK k y m d = numK k y m 1 + (d - 1) := by
  by_cases h0 : k = 0
  · subst h0; rw [numK_0, numK_0]; exact toG_lin y m d
  by_cases h1 : k = 1
  · subst h1; rw [numK_1, numK_1]; exact toJu_lin y m d
  by_cases h2 : k = 2
  · subst h2; rw [numK_2, numK_2]; exact toI_lin y m d
  by_cases h3 : k = 3
  · subst h3; rw [numK_3, numK_3]; exact toC_lin y m d
  by_cases h4 : k = 4
  · subst h4; rw [numK_4, numK_4]; exact toN_lin y m d
  by_cases h5 : k = 5
  · subst h5; rw [numK_5, numK_5]; exact toA_lin y m d
  have e : ∀ d, numK k y m d = toS y m d := fun d => by unfold numK; rw [if_neg h0, if_neg h1, if_neg h2, if_neg h3, if_neg h4, if_neg h5]
  rw [e, e]; exact toS_lin y m d
theorem dimK_range (k y m : Int) : 5 ≤ dimK k y m ∧ dimK k y m ≤ 31 := by
  have h0 := dimG_range y m
  have h1 := dimJ_range y m
  have h2 := dimI_range y m
  have h3 := dimC_range y m
  have h4 := dimN_range y m
  have h5 := dimA_range m
  have h6 := dimS_range y m
  unfold dimK
  (repeat' split) <;> omega
theorem ends (k n : Int) (h : 0 ≤ k ∧ k ≤ 6) (hn : 2117600 ≤ n ∧ n ≤ 5317599) (h4 : ¬ (k = 4 ∧ dM k n = 1)) :
    dD k (n + dimK k (dY k n) (dM k n) - dD k n + 1) = 1 ∧ dD k (n + dimK k (dY k n) (dM k n) - dD k n) = dimK k (dY k n) (dM k n) := by
  have hk : k = 0 ∨ k = 1 ∨ k = 2 ∨ k = 3 ∨ k = 4 ∨ k = 5 ∨ k = 6 := by omega
  rcases hk with rfl | rfl | rfl | rfl | rfl | rfl | rfl
  all_goals simp only [dY_0, dY_1, dY_2, dY_3, dY_4, dY_5, dY_6, dM_0, dM_1, dM_2, dM_3, dM_4, dM_5, dM_6, dD_0, dD_1, dD_2, dD_3, dD_4, dD_5, dD_6, dimK_0, dimK_1, dimK_2, dimK_3, dimK_4, dimK_5, dimK_6] at h4 ⊢
  · exact ends_0 n
  · exact ends_1 n
  · exact ends_2 n
  · exact ends_3 n
  · exact ends_4 n (fun e => h4 ⟨trivial, e⟩)
  · exact ends_5 n
  · exact ends_6 n hn.1
end Mine
open PySem PySem.W PyProof.Rows
set_option Elab.async false
set_option maxRecDepth 100000
namespace Mine
def Stop (P : Prop) : Prop := P
theorem stopHere {P : Prop} (h : Stop P) : P := h
section
variable {prog : Program} {w : World} {A : Around} {E : Value → Shared → Prop} {s : Shared} {env : Env} {h₀ : Heap} {L : Addr}
def TurnOk (h₀ : Heap) (L : Addr) (s : Shared) (It : Addr) (oI : Obj) (J : (Str → Option Value) → Led → Prop) (f : Flow) (s' : Shared) : Prop :=
  (f = .next ∨ f = .cont) ∧ ∃ h' tk' m' nw', s' = { s with heap := h', toks := tk' } ∧ Fr h₀ L h' m' ∧ News h₀ L h' ((It, oI) :: nw') ∧ (∀ p ∈ nw', p.1 ≠ It) ∧ J m' nw'
theorem for_range7 {tgt : PySem.Expr} {body : List Stmt} {Q : Flow → Shared → Prop} {m : Str → Option Value} {nw : Led} {r : Addr} {n : Nat} {t u v : Tok} {b : Int}
    (hh : A.handled = none) (hr : IsRange s.heap r 0 b 1 t u v) (hb : b = (n : Int)) (hn : n ≤ 1000) (F : Fr h₀ L s.heap m) (N : News h₀ L s.heap nw)
    (J : (Str → Option Value) → Led → Prop) (hJ : J m nw)
    (turn : ∀ (k : Int) ti m₁ nw₁ h tk It oI E', 0 ≤ k → k < n → J m₁ nw₁ → Fr h₀ L h m₁ → News h₀ L h ((It, oI) :: nw₁) → (∀ p ∈ nw₁, p.1 ≠ It) →
      wpAny (model prog w) A (assign tgt env (.int k ti)) (fun _ s₂ => wpAny (model prog w) A (execs body env) (TurnOk h₀ L s It oI J) E' s₂) E' { s with heap := h, toks := tk })
    (done : ∀ m₁ nw₁ h tk, J m₁ nw₁ → Fr h₀ L h m₁ → News h₀ L h nw₁ → Q .next { s with heap := h, toks := tk })
    (ht : ∀ it v, letOwnedTupleGo tgt it v = pure () := by intro _ _; rfl) :
    wpAny (model prog w) A (pyIter (.ref r)) (fun it s₂ => codeAny (model prog w) A (.forLoop tgt it body [] env) (fun r s' => match r with | .ok f => Q f s' | .error e => cameBackBy (model prog w) A env E e s') s₂) E s := by
  subst hb
  have hsm : Builtin.Range.small 0 (n : Int) 1 = true := small_one (by omega) (by omega) (by omega) (by omega)
  refine wpAny_pyIter_range hr hsm ?_
  have hlt : ∀ p ∈ nw, p.1 ≠ s.heap.objs.size := fun p hp => Nat.ne_of_lt (Heap.lt_size (N p hp).1)
  have hIL : L ≠ s.heap.objs.size := Nat.ne_of_lt F.ns.lt
  have hI₀ : h₀.get? s.heap.objs.size = none := next_is_new F
  have W := LCg.range_walks (prog := prog) (w := w) (A := A) (I := s.heap.objs.size) hh 0 n
  have hn' : Builtin.Range.rangeSize 0 (n : Int) 1 = (n : Int) := by rw [rangeSize_nat]; omega
  refine codeAny_forLoop (fun k s' => ∃ i h tk m₁ nw₁, s' = { s with heap := h, toks := tk } ∧ i ≤ n ∧ k = n + 1 - i ∧ IsRangeIter h s.heap.objs.size (0 + (i : Nat) * 1) ((n : Int) - (i : Nat)) 1 ∧ Fr h₀ L h m₁ ∧ News h₀ L h nw₁ ∧ (∀ p ∈ nw₁, p.1 ≠ s.heap.objs.size) ∧ J m₁ nw₁) ?_ (n + 1)
    ⟨0, _, _, m, nw, rfl, Nat.zero_le _, rfl, ?_, F.push _, N.grown fun _ _ e => Heap.get?_push_of_some _ e, hlt, hJ⟩ (ht _)
  · rintro k s' ⟨i, h, tk, m₁, nw₁, rfl, hi, rfl, hst, F₁, N₁, off, hJ₁⟩
    by_cases hlt' : i < n
    · refine W.item i _ _ _ hlt' hst fun v h₂ tk₂ hP hst₂ hk₂ => ?_
      obtain ⟨t, rfl⟩ := hP
      have F₂ := LCg.fr_but F₁ hk₂ hIL hI₀
      have N₂ := LCg.news_but N₁ hk₂ off
      have N₃ : News h₀ L h₂ ((s.heap.objs.size, _) :: nw₁) := fun p hp => by
        rcases List.mem_cons.mp hp with rfl | hp
        · exact ⟨hst₂, Ne.symm hIL, hI₀⟩
        · exact N₂ p hp
      refine wpAny_mono (turn (0 + (i : Int)) t m₁ nw₁ h₂ tk₂ _ _ _ (by omega) (by omega) hJ₁ F₂ N₃ off) (fun _ s₃ h₃ => wpAny_mono h₃ (fun f s₄ h₄ => ?_) fun _ _ e => e) fun _ _ e => e
      obtain ⟨hf, h', tk', m', nw', rfl, F', N', off', hJ'⟩ := h₄
      have back : ∃ k, k < n + 1 - i ∧ ∃ i h tk m₁ nw₁, ({ s with heap := h', toks := tk' } : Shared) = { s with heap := h, toks := tk } ∧ i ≤ n ∧ k = n + 1 - i ∧ IsRangeIter h s.heap.objs.size (0 + (i : Nat) * 1) ((n : Int) - (i : Nat)) 1 ∧ Fr h₀ L h m₁ ∧ News h₀ L h nw₁ ∧ (∀ p ∈ nw₁, p.1 ≠ s.heap.objs.size) ∧ J m₁ nw₁ :=
        ⟨n + 1 - (i + 1), by omega, i + 1, h', tk', m', nw', rfl, hlt', rfl, (N' _ (.head _)).1, F', fun p hp => N' p (.tail _ hp), off', hJ'⟩
      rcases hf with rfl | rfl
      · exact back
      · exact back
    · have e : i = n := by omega
      subst e
      refine W.done _ _ _ hst fun h₂ tk₂ hk₂ => wpAny_execs_nil ?_
      exact done m₁ nw₁ h₂ tk₂ hJ₁ (LCg.fr_but F₁ hk₂ hIL hI₀) (LCg.news_but N₁ hk₂ off)
  · show IsRangeIter _ _ _ _ _
    have e : ((n : Int) - ((0 : Nat) : Int)) = (n : Int) := by omega
    rw [hn', e]
    simpa using Heap.get?_push_size _ rfl
end
def JInt (h₀ : Heap) (L : Addr) (m : Str → Option Value) (nw : Led) (s : Shared) (lo hi : Int) (v : Value) (s' : Shared) : Prop :=
  ∃ x t h' tk', v = Value.int x t ∧ s' = { s with heap := h', toks := tk' } ∧ Fr h₀ L h' m ∧ News h₀ L h' nw ∧ lo ≤ x ∧ x ≤ hi
theorem JInt.intro {h₀ h' : Heap} {L : Addr} {m : Str → Option Value} {nw nw' : Led} {s : Shared} {lo hi x : Int} {t : Tok} {tk' : Nat} (F : Fr h₀ L h' m) (N : News h₀ L h' nw') (hs : ∀ p ∈ nw, p ∈ nw') (h1 : lo ≤ x) (h2 : x ≤ hi) :
    JInt h₀ L m nw s lo hi (.int x t) { s with heap := h', toks := tk' } := ⟨x, t, h', tk', rfl, rfl, F, fun p hp => N p (hs p hp), h1, h2⟩
theorem join_int {M : Model} {A : Around} {E : Value → Shared → Prop} {Q : Value → Shared → Prop} {c : Sem Value} {s : Shared} {h₀ : Heap} {L : Addr} {m : Str → Option Value} {nw : Led} (lo hi : Int) (_F : Fr h₀ L s.heap m) (_N : News h₀ L s.heap nw)
    (hc : wpAny M A c (JInt h₀ L m nw s lo hi) E s)
    (hk : ∀ x t h' tk', lo ≤ x → x ≤ hi → Fr h₀ L h' m → News h₀ L h' nw → Q (.int x t) { s with heap := h', toks := tk' }) : wpAny M A c Q E s :=
  wpAny_mono hc (fun v s' z => by obtain ⟨x, t, h', tk', rfl, rfl, F, N, h1, h2⟩ := z; exact hk x t h' tk' h1 h2 F N) fun _ _ e => e
def JB (h₀ : Heap) (L : Addr) (m : Str → Option Value) (nw : Led) (s : Shared) (P : Prop) (b : Bool) (s' : Shared) : Prop :=
  ∃ h' tk', (b = true ↔ P) ∧ s' = { s with heap := h', toks := tk' } ∧ Fr h₀ L h' m ∧ News h₀ L h' nw
theorem JB.intro {h₀ h' : Heap} {L : Addr} {m : Str → Option Value} {nw nw' : Led} {s : Shared} {P : Prop} {b : Bool} {tk' : Nat} (F : Fr h₀ L h' m) (N : News h₀ L h' nw') (hs : ∀ p ∈ nw, p ∈ nw') (h1 : b = true ↔ P) :
    JB h₀ L m nw s P b { s with heap := h', toks := tk' } := ⟨h', tk', h1, rfl, F, fun p hp => N p (hs p hp)⟩
theorem join_bool {M : Model} {A : Around} {E : Value → Shared → Prop} {Q : Bool → Shared → Prop} {c : Sem Bool} {s : Shared} {h₀ : Heap} {L : Addr} {m : Str → Option Value} {nw : Led} (P : Prop) (_F : Fr h₀ L s.heap m) (_N : News h₀ L s.heap nw)
    (hc : wpAny M A c (JB h₀ L m nw s P) E s)
    (hk : ∀ b h' tk', (b = true ↔ P) → Fr h₀ L h' m → News h₀ L h' nw → Q b { s with heap := h', toks := tk' }) : wpAny M A c Q E s :=
  wpAny_mono hc (fun b s' z => by obtain ⟨h', tk', h1, rfl, F, N⟩ := z; exact hk b h' tk' h1 F N) fun _ _ e => e
def JLaw (c1 c2 c3 c4 c5 c6 : Addr) (o1 o2 : Obj) (y1 y2 : Str) (m0 m₁ : Str → Option Value) (nw₁ : Led) : Prop :=
  ∃ (u1 u2 : Str → Option Value) (o3 o4 o5 o6 : Obj), nw₁ = [(c6, o6), (c5, o5), (c4, o4), (c3, o3), (c2, o2), (c1, o1)] ∧ (∃ v, o3.data = .cell v) ∧ (∃ v, o4.data = .cell v) ∧ (∃ v, o5.data = .cell v) ∧ (∃ v, o6.data = .cell v) ∧
    m₁ = fun z => if z = y1 then u1 z else if z = y2 then u2 z else m0 z
theorem for_law {prog : Program} {w : World} {A : Around} {E : Value → Shared → Prop} {s : Shared} {env : Env} {h₀ : Heap} {L : Addr} {tgt : PySem.Expr} {body : List Stmt} {Q : Flow → Shared → Prop} {m0 : Str → Option Value} {r : Addr} {t u v : Tok}
    {c1 c2 c3 c4 c5 c6 : Addr} {o1 o2 o3 o4 o5 o6 : Obj} {v3 v4 v5 v6 : Option Value} (y1 y2 : Str)
    (hh : A.handled = none) (hr : IsRange s.heap r 0 7 1 t u v) (F : Fr h₀ L s.heap m0) (N : News h₀ L s.heap [(c6, o6), (c5, o5), (c4, o4), (c3, o3), (c2, o2), (c1, o1)])
    (h3 : o3.data = .cell v3) (h4 : o4.data = .cell v4) (h5 : o5.data = .cell v5) (h6 : o6.data = .cell v6)
    (turn : ∀ (k : Int) ti (u1 u2 : Str → Option Value) (p3 p4 p5 p6 : Obj) (w3 w4 w5 w6 : Option Value) h tk It oI E', 0 ≤ k → k < 7 → p3.data = .cell w3 → p4.data = .cell w4 → p5.data = .cell w5 → p6.data = .cell w6 →
      Fr h₀ L h (fun z => if z = y1 then u1 z else if z = y2 then u2 z else m0 z) → News h₀ L h [(c6, p6), (c5, p5), (c4, p4), (c3, p3), (c2, o2), (c1, o1), (It, oI)] → (@Ne Nat It c1 ∧ @Ne Nat It c2 ∧ @Ne Nat It c3 ∧ @Ne Nat It c4 ∧ @Ne Nat It c5 ∧ @Ne Nat It c6) →
      wpAny (model prog w) A (assign tgt env (.int k ti)) (fun _ s₂ => wpAny (model prog w) A (execs body env) (TurnOk h₀ L s It oI (JLaw c1 c2 c3 c4 c5 c6 o1 o2 y1 y2 m0)) E' s₂) E' { s with heap := h, toks := tk })
    (done : ∀ (u1 u2 : Str → Option Value) (p3 p4 p5 p6 : Obj) h tk, Fr h₀ L h (fun z => if z = y1 then u1 z else if z = y2 then u2 z else m0 z) → News h₀ L h [(c6, p6), (c5, p5), (c4, p4), (c3, p3), (c2, o2), (c1, o1)] → Q .next { s with heap := h, toks := tk })
    (ht : ∀ it v, letOwnedTupleGo tgt it v = pure () := by intro _ _; rfl) :
    wpAny (model prog w) A (pyIter (.ref r)) (fun it s₂ => codeAny (model prog w) A (.forLoop tgt it body [] env) (fun r s' => match r with | .ok f => Q f s' | .error e => cameBackBy (model prog w) A env E e s') s₂) E s := by
  refine for_range7 (n := 7) hh hr rfl (by omega) F N (JLaw c1 c2 c3 c4 c5 c6 o1 o2 y1 y2 m0) ⟨m0, m0, o3, o4, o5, o6, rfl, ⟨_, h3⟩, ⟨_, h4⟩, ⟨_, h5⟩, ⟨_, h6⟩, by funext z; simp⟩ ?_ ?_ ht
  · rintro k ti m₁ nw₁ h tk It oI E' hk0 hk7 ⟨u1, u2, p3, p4, p5, p6, rfl, ⟨_, e3⟩, ⟨_, e4⟩, ⟨_, e5⟩, ⟨_, e6⟩, rfl⟩ F₁ N₁ off
    refine turn k ti u1 u2 p3 p4 p5 p6 _ _ _ _ h tk It oI E' hk0 (by omega) e3 e4 e5 e6 F₁ (fun p hp => N₁ p ?_) ⟨Ne.symm (off (c1, o1) (by simp)), Ne.symm (off (c2, o2) (by simp)), Ne.symm (off (c3, p3) (by simp)), Ne.symm (off (c4, p4) (by simp)), Ne.symm (off (c5, p5) (by simp)), Ne.symm (off (c6, p6) (by simp))⟩
    simp only [List.mem_cons, List.not_mem_nil, or_false] at hp ⊢
    rcases hp with h | h | h | h | h | h | h <;> simp [h]
  · rintro m₁ nw₁ h tk ⟨u1, u2, p3, p4, p5, p6, rfl, _, _, _, _, rfl⟩ F₁ N₁
    exact done u1 u2 p3 p4 p5 p6 h tk F₁ N₁
theorem turn_ok {h₀ h' : Heap} {L : Addr} {s : Shared} {It c1 c2 c3 c4 c5 c6 : Addr} {oI o1 o2 p3 p4 p5 p6 : Obj} {y1 y2 : Str} {m0 m' : Str → Option Value} {w3 w4 w5 w6 : Option Value} {nws : Led} {tk' : Nat} {f : Flow} (hf : f = .next ∨ f = .cont)
    (F : Fr h₀ L h' m') (N : News h₀ L h' nws) (hm : ∀ p ∈ [(c6, p6), (c5, p5), (c4, p4), (c3, p3), (c2, o2), (c1, o1), (It, oI)], p ∈ nws) (h3 : p3.data = .cell w3) (h4 : p4.data = .cell w4) (h5 : p5.data = .cell w5) (h6 : p6.data = .cell w6)
    (hne : @Ne Nat It c1 ∧ @Ne Nat It c2 ∧ @Ne Nat It c3 ∧ @Ne Nat It c4 ∧ @Ne Nat It c5 ∧ @Ne Nat It c6) (hu : ∀ z, z ≠ y1 → z ≠ y2 → m' z = m0 z) :
    TurnOk h₀ L s It oI (JLaw c1 c2 c3 c4 c5 c6 o1 o2 y1 y2 m0) f { s with heap := h', toks := tk' } := by
  refine ⟨hf, h', tk', m', [(c6, p6), (c5, p5), (c4, p4), (c3, p3), (c2, o2), (c1, o1)], rfl, F, fun p hp => N p (hm p ?_), ?_, m', m', p3, p4, p5, p6, rfl, ⟨_, h3⟩, ⟨_, h4⟩, ⟨_, h5⟩, ⟨_, h6⟩, ?_⟩
  · simp only [List.mem_cons, List.not_mem_nil, or_false] at hp ⊢
    rcases hp with h | h | h | h | h | h | h <;> simp [h]
  · intro p hp
    simp only [List.mem_cons, List.not_mem_nil, or_false] at hp
    obtain ⟨a1, a2, a3, a4, a5, a6⟩ := hne
    rcases hp with rfl | rfl | rfl | rfl | rfl | rfl
    · exact Ne.symm a6
    · exact Ne.symm a5
    · exact Ne.symm a4
    · exact Ne.symm a3
    · exact Ne.symm a2
    · exact Ne.symm a1
  · funext z
    by_cases e1 : z = y1
    · simp [e1]
    by_cases e2 : z = y2
    · simp [e2]
    · simp only [e1, e2, if_false]; exact hu z e1 e2
theorem wrp {P : World → (ExcName → Option Value) → (Str → Option Value) → (Str → Option Value) → Prop} (f : ∀ w mean mg mb, P w mean mg mb) {w : World} {mean : ExcName → Option Value} {mg mb : Str → Option Value} {h h' : Heap}
    (_T : Top hd.view_39 LO mean mg mb h) (_X : (hd.heap_39 w.params).In h') : P w mean mg mb := f w mean mg mb
end Mine
open PySem PySem.W PyProof.Rows
set_option Elab.async false
set_option maxRecDepth 100000
namespace Mine
abbrev two (elt t0 i0 t1 i1 : PySem.Expr) (ifs : List PySem.Expr) (scope : Scope) (pos : Pos) : PySem.Expr := .ListComp elt [⟨t0, i0, [], 0⟩, ⟨t1, i1, ifs, 0⟩] scope pos
theorem compTurn_outer (elt t0 i0 t1 i1 : PySem.Expr) (ifs : List PySem.Expr) (scope : Scope) (pos : Pos) (it acc : Value) (env : Env) :
    compTurn (two elt t0 i0 t1 i1 ifs scope pos) 0 it acc env = (do
      standAt i0.pos
      match ← pyNext it with
      | none => pure (.done .next)
      | some v =>
        letOwnedTupleGo t0 it v
        assign t0 env v
        let x ← eval i1 env
        standAt i1.pos
        let x ← foldedSetIterable i1 env x
        let _ ← runOwn (.compStart (two elt t0 i0 t1 i1 ifs scope pos) 1 (← holding [x] (pyIter x)) acc env) env
        again (.compLoop (two elt t0 i0 t1 i1 ifs scope pos) 0 it acc env)) := by rfl
theorem compTurn_inner (elt t0 i0 t1 i1 : PySem.Expr) (ifs : List PySem.Expr) (scope : Scope) (pos : Pos) (it acc : Value) (env : Env) :
    compTurn (two elt t0 i0 t1 i1 ifs scope pos) 1 it acc env = (do
      standAt i1.pos
      match ← pyNext it with
      | none => pure (.done .next)
      | some v =>
        letOwnedTupleGo t1 it v
        assign t1 env v
        let mut ok := true
        for c in ifs do
          if ok then ok ← isTrue c env (eval c env)
        if ok then
          (do let _ ← call (.builtin "list.append") [acc, ← eval elt env])
        again (.compLoop (two elt t0 i0 t1 i1 ifs scope pos) 1 it acc env)) := by rfl
section
variable {prog : Program} {w : World} {A : Around} {E : Value → Shared → Prop} {R : Result → Shared → Prop} {s : Shared}
theorem loop_outer {elt t0 i0 t1 i1 : PySem.Expr} {ifs : List PySem.Expr} {scope : Scope} {pos : Pos} {it acc : Value} {env : Env} (I : Nat → Shared → Prop)
    (turn : ∀ n s, I n s → wpAny (model prog w) A (pyNext it) (fun r s₁ => match r with
      | none => R (.ok .next) s₁
      | some v => wpAny (model prog w) A (assign t0 env v) (fun _ s₂ => wpAny (model prog w) A (eval i1 env) (fun x s₃ => wpAny (model prog w) A (pyIter x) (fun it1 s₄ =>
          codeAny (model prog w) A (.compStart (two elt t0 i0 t1 i1 ifs scope pos) 1 it1 acc env) (fun r s₅ => match r with | .ok _ => ∃ m, m < n ∧ I m s₅ | .error x => cameBackBy (model prog w) A env (notedBy (model prog w) A env fun e s' => R (.error e) s') x s₅) s₄)
          (notedBy (model prog w) A env fun e s' => R (.error e) s') s₃) (notedBy (model prog w) A env fun e s' => R (.error e) s') s₂) (notedBy (model prog w) A env fun e s' => R (.error e) s') s₁) (notedBy (model prog w) A env fun e s' => R (.error e) s') s)
    (n : Nat) (h : I n s) (ht : ∀ v, letOwnedTupleGo t0 it v = pure () := by intro _; rfl) (hs : ∀ x, foldedSetIterable i1 env x = pure x := by intro _; rfl) :
    codeAny (model prog w) A (.compLoop (two elt t0 i0 t1 i1 ifs scope pos) 0 it acc env) R s := by
  refine codeAny_loop rfl I (fun n s hI => ?_) n h
  show wpAny _ A ((compTurn (two elt t0 i0 t1 i1 ifs scope pos) 0 it acc env).onRaise (fun x => do noteFrame x env; theTreesLotGoes x)) _ _ s
  refine wpAny_noted ?_
  rw [compTurn_outer]
  refine wpAny_bind (wpAny_standAt (wpAny_bind (wpAny_mono (turn n s hI) (fun r s₁ h₁ => ?_) fun _ _ h' => h')))
  cases r with
  | none => exact wpAny_pure h₁
  | some v =>
    refine wpAny_bind (wpAny_of_eq (ht v) ?_)
    refine wpAny_bind (wpAny_mono h₁ (fun _ s₂ h₂ => wpAny_bind (wpAny_mono h₂ (fun x s₃ h₃ => wpAny_bind (wpAny_standAt (wpAny_bind (wpAny_of_eq (hs x) ?_)))) fun _ _ h' => h')) fun _ _ h' => h')
    refine wpAny_bind (wpAny_holding (wpAny_mono h₃ (fun it1 s₄ h₄ => ?_) fun _ _ h' => h'))
    refine wpAny_bind (wpAny_runOwn (codeAny_mono h₄ fun r s₅ h₅ => ?_))
    cases r with
    | ok f => exact wpAny_pure ⟨rfl, h₅⟩
    | error x => exact h₅
theorem loop_inner {elt t0 i0 t1 i1 : PySem.Expr} {ifs : List PySem.Expr} {scope : Scope} {pos : Pos} {it acc : Value} {env : Env} (I : Nat → Shared → Prop)
    (turn : ∀ n s, I n s → wpAny (model prog w) A (pyNext it) (fun r s₁ => match r with
      | none => R (.ok .next) s₁
      | some v => wpAny (model prog w) A (assign t1 env v) (fun _ s₂ =>
          wpAny (model prog w) A (forIn ifs true fun c r => if r = true then do let ok ← isTrue c env (eval c env); pure (ForInStep.yield ok) else pure (ForInStep.yield r)) (fun ok s₃ =>
            if ok = true then wpAny (model prog w) A (eval elt env) (fun x s₄ =>
              wpAny (model prog w) A (call (.builtin "list.append") [acc, x]) (fun _ s₅ => ∃ m, m < n ∧ I m s₅) (notedBy (model prog w) A env fun e s' => R (.error e) s') s₄) (notedBy (model prog w) A env fun e s' => R (.error e) s') s₃
            else ∃ m, m < n ∧ I m s₃) (notedBy (model prog w) A env fun e s' => R (.error e) s') s₂) (notedBy (model prog w) A env fun e s' => R (.error e) s') s₁) (notedBy (model prog w) A env fun e s' => R (.error e) s') s)
    (n : Nat) (h : I n s) (ht : ∀ v, letOwnedTupleGo t1 it v = pure () := by intro _; rfl) :
    codeAny (model prog w) A (.compLoop (two elt t0 i0 t1 i1 ifs scope pos) 1 it acc env) R s := by
  refine codeAny_loop rfl I (fun n s hI => ?_) n h
  show wpAny _ A ((compTurn (two elt t0 i0 t1 i1 ifs scope pos) 1 it acc env).onRaise (fun x => do noteFrame x env; theTreesLotGoes x)) _ _ s
  refine wpAny_noted ?_
  rw [compTurn_inner]
  refine wpAny_bind (wpAny_standAt (wpAny_bind (wpAny_mono (turn n s hI) (fun r s₁ h₁ => ?_) fun _ _ h' => h')))
  cases r with
  | none => exact wpAny_pure h₁
  | some v =>
    refine wpAny_bind (wpAny_of_eq (ht v) ?_)
    refine wpAny_bind (wpAny_mono h₁ (fun _ s₂ h₂ => wpAny_bind (wpAny_mono h₂ (fun ok s₃ h₃ => ?_) fun _ _ h' => h')) fun _ _ h' => h')
    cases ok with
    | false => exact wpAny_pure ⟨rfl, h₃⟩
    | true =>
      exact wpAny_bind (wpAny_bind (wpAny_mono h₃ (fun x s₄ h₄ => wpAny_bind (wpAny_mono h₄ (fun _ s₅ h₅ => wpAny_pure (wpAny_pure ⟨rfl, h₅⟩)) fun _ _ h' => h')) fun _ _ h' => h'))
theorem start_two {elt t0 i0 t1 i1 : PySem.Expr} {ifs : List PySem.Expr} {scope : Scope} {pos : Pos} {it acc : Value} {env : Env} {d : Nat}
    (hd : d = 0 ∨ d = 1)
    (h0 : codeAny (model prog w) A (.compLoop (two elt t0 i0 t1 i1 ifs scope pos) d it acc env) R s)
    (h : wpAny (model prog w) A (pyIter it) (fun it' s' => codeAny (model prog w) A (.compLoop (two elt t0 i0 t1 i1 ifs scope pos) d it' acc env) R s')
      (notedBy (model prog w) A env fun x s' => R (.error x) s') s) :
    codeAny (model prog w) A (.compStart (two elt t0 i0 t1 i1 ifs scope pos) d it acc env) R s := by
  refine codeAny_of_tree ?_
  show wpAny _ _ ((compStart (two elt t0 i0 t1 i1 ifs scope pos) d it acc env).onRaise (fun x => do noteFrame x env; standAt theWindowsPlace)) _ _ s
  refine wpAny_notedAt ?_
  rcases hd with rfl | rfl
  · unfold compStart
    show wpAny _ _ (ask >>= _) _ _ s
    refine wpAny_bind (wpAny_askSetting (wpAny_ite ?_))
    split
    · first
        | exact wpAny_bind (wpAny_pure (wpAny_pure (And.intro rfl h0)))
        | exact wpAny_pure (And.intro rfl h0)
    · first
        | exact wpAny_bind (wpAny_rule (wpAny_bind (wpAny_standAt (wpAny_bind (wpAny_mono h (fun it' s' h' => wpAny_pure (And.intro rfl h')) fun _ _ x => x)))))
        | (refine wpAny_bind (wpAny_rule ?_); show wpAny _ _ (standAt i0.pos >>= _) _ _ s; exact wpAny_bind (wpAny_standAt (wpAny_bind (wpAny_mono h (fun it' s' h' => wpAny_pure (And.intro rfl h')) fun _ _ x => x))))
  · unfold compStart
    show wpAny _ _ (ask >>= _) _ _ s
    refine wpAny_bind (wpAny_askSetting (wpAny_ite ?_))
    split
    · first
        | exact wpAny_bind (wpAny_pure (wpAny_pure (And.intro rfl h0)))
        | exact wpAny_pure (And.intro rfl h0)
    · first
        | exact wpAny_bind (wpAny_rule (wpAny_bind (wpAny_standAt (wpAny_bind (wpAny_mono h (fun it' s' h' => wpAny_pure (And.intro rfl h')) fun _ _ x => x)))))
        | (refine wpAny_bind (wpAny_rule ?_); show wpAny _ _ (standAt i1.pos >>= _) _ _ s; exact wpAny_bind (wpAny_standAt (wpAny_bind (wpAny_mono h (fun it' s' h' => wpAny_pure (And.intro rfl h')) fun _ _ x => x))))
end
open PyProof.Rows.LCg
def BackN (h₀ : Heap) (L : Addr) (m : Str → Option Value) (s : Shared) (led : Led) (P : Prop) (s' : Shared) : Prop :=
  ∃ h' tk', s' = { s with heap := h', toks := tk' } ∧ Fr h₀ L h' m ∧ News h₀ L h' led ∧ P
def InnerN (prog : Program) (w : World) (A : Around) (h₀ : Heap) (L : Addr) (m : Str → Option Value) (env : Env) (elt : PySem.Expr) (ifs : List PySem.Expr) (x z : Str) (scope : Scope) (cl : List (Str × Addr)) (s : Shared) (news : Led)
    (I C D : Addr) (oI oC : Obj) (v : Value) (ys : List Value) (Jn : List Value → Prop) (it1 : Value) (s₄ : Shared) : Prop :=
  ∃ (I₁ : Addr) (fp₁ : List Addr) (n₁ : Nat) (P₁ : Nat → Value → Prop) (St₁ : Nat → Heap → Prop) (J₁ : Nat → List Value → Prop) (h₁ : Heap) (tk₁ : Nat), it1 = .ref I₁ ∧ s₄ = { s with heap := h₁, toks := tk₁ } ∧
    Walks prog w A I₁ fp₁ [I₁] n₁ P₁ St₁ ∧ St₁ 0 h₁ ∧ L ≠ I₁ ∧ I ≠ I₁ ∧ C ≠ I₁ ∧ D ≠ I₁ ∧ (∀ p ∈ news, p.1 ≠ I₁) ∧ h₀.get? I₁ = none ∧ Fr h₀ L h₁ m ∧ News h₀ L h₁ ((I, oI) :: (C, oC) :: (D, lst ys) :: news) ∧
    (∀ j h, St₁ j h → ∃ o, h.get? I₁ = some o) ∧
    (∀ j h h' o, St₁ j h → h.get? I₁ = some o → h'.get? I₁ = some o → (∀ b o, h₀.get? b = some o → h'.get? b = some o) → News h₀ L h' news → St₁ j h') ∧
    J₁ 0 ys ∧ (∀ j ys', J₁ j ys' → ys'.length ≤ 100000) ∧ (∀ ys', J₁ n₁ ys' → Jn ys') ∧
    (∀ j u ys' oC' m₃ oI₁ h tk E', j < n₁ → P₁ j u → J₁ j ys' → NsObj oC' m₃ → m₃ x = some v → m₃ z = some u → Fr h₀ L h m → News h₀ L h ((I₁, oI₁) :: (I, oI) :: (C, oC') :: (D, lst ys') :: news) →
      wpAny (model prog w) A (forIn ifs true fun c r => if r = true then do let ok ← isTrue c (compEnvC scope cl C env) (eval c (compEnvC scope cl C env)); pure (ForInStep.yield ok) else pure (ForInStep.yield r)) (fun ok s₅ =>
        if ok = true then wpAny (model prog w) A (eval elt (compEnvC scope cl C env)) (fun y s₆ => BackN h₀ L m s ((I₁, oI₁) :: (I, oI) :: (C, oC') :: (D, lst ys') :: news) (J₁ (j + 1) (ys' ++ [y])) s₆) E' s₅
        else BackN h₀ L m s ((I₁, oI₁) :: (I, oI) :: (C, oC') :: (D, lst ys') :: news) (J₁ (j + 1) ys') s₅) E' { s with heap := h, toks := tk })
section
variable {prog : Program} {w : World} {A : Around} {E : Value → Shared → Prop} {s : Shared} {h₀ : Heap} {L : Addr} {m : Str → Option Value} {env : Env}
theorem block_N {elt i0 i1 : PySem.Expr} {ifs : List PySem.Expr} {x z : Str} {px pz : Pos} {scope : Scope} {cl : List (Str × Addr)} {pos : Pos} {s₂ : Shared} {I : Addr} {fp : List Addr} {n : Nat} {P : Nat → Value → Prop} {St : Nat → Heap → Prop} {news : Led}
    {RR : Value → Addr → Result → Shared → Prop} (J : Nat → List Value → Prop)
    (W : Walks prog w A I fp [I] n P St) (hIo : ∀ i h, St i h → ∃ o, h.get? I = some o)
    (hSt : ∀ i h h' o, St i h → h.get? I = some o → h'.get? I = some o → (∀ b o, h₀.get? b = some o → h'.get? b = some o) → News h₀ L h' news → St i h')
    (hcell : ∀ y ∈ scope.names, y.2 ≠ .cell) (hkind : scope.kind = .function) (hx : scope.names.lookup x = some .local) (hz : scope.names.lookup z = some .local) (hxz : x ≠ z) (hst : St 0 s₂.heap) (hI : I < s₂.heap.objs.size)
    (F : Fr h₀ L s₂.heap m) (N : News h₀ L s₂.heap news) (hIL : L ≠ I) (hI₀ : h₀.get? I = none) (off : ∀ p ∈ news, p.1 ≠ I) (hJ : J 0 [])
    (inner : ∀ i v ys oI C oC D m₂ h tk E', i < n → P i v → J i ys → NsObj oC m₂ → m₂ x = some v → Fr h₀ L h m → News h₀ L h ((I, oI) :: (C, oC) :: (D, lst ys) :: news) → Off3 I C D news → ((@Ne Nat I C) ∧ (@Ne Nat I D) ∧ (@Ne Nat C D)) →
      wpAny (model prog w) A (eval i1 (compEnvC scope cl C env)) (fun xv s₃ => wpAny (model prog w) A (pyIter xv) (InnerN prog w A h₀ L m env elt ifs x z scope cl s₂ news I C D oI oC v ys (J (i + 1))) E' s₃) E' { s₂ with heap := h, toks := tk })
    (hs1 : ∀ env x, foldedSetIterable i1 env x = pure x)
    (hRR : ∀ D C h tk m' ys, Fr h₀ L h m → News h₀ L h ((D, lst ys) :: news) → Off1 D news → h.Ns C m' → h₀.get? C = none → h₀.get? D = none → C ≠ L → D ≠ L → C ≠ D → (∀ p ∈ news, p.1 ≠ C) → J n ys → RR (.ref D) C (.ok .next) { s₂ with heap := h, toks := tk }) :
    wpAny (model prog w) A (newList []) (fun acc s₃ => wpAny (model prog w) A (newFunctionEnv scope env.globals cl [] env.qual none .none (some env)) (fun cenv s₄ =>
      codeAny (model prog w) A (.compStart (two elt (.Name x px) i0 (.Name z pz) i1 ifs scope pos) 0 (.ref I) acc { cenv with scope := relabel scope env }) (RR acc cenv.locals) s₄) E s₃) E s₂ := by
  refine wpAny_newObj_type (wpAny_newFunctionEnv hcell (by intro y hy; simp at hy) (fun h₁ hns₁ hsb₁ => ?_) hkind)
  dsimp only at hns₁ hsb₁ ⊢
  generalize hH2 : s₂.heap.push { cls := .type "list", dict := none, data := .seq ([] : List Value).toArray } = H2 at hns₁ hsb₁ ⊢
  have hC : H2.objs.size = s₂.heap.objs.size + 1 := by rw [← hH2, Heap.size_push]
  generalize hDe : s₂.heap.objs.size = D at hC
  generalize hCe : H2.objs.size = C at hC hns₁ hsb₁ ⊢
  have hDC : D ≠ C := by rw [hC]; exact Nat.ne_of_lt (Nat.lt_succ_self _)
  have below : ∀ b, b < D → b ≠ C ∧ b ≠ D := fun b hb => ⟨by rw [hC]; exact Nat.ne_of_lt (Nat.lt_succ_of_lt hb), Nat.ne_of_lt hb⟩
  have old : ∀ b o, s₂.heap.get? b = some o → h₁.get? b = some o := fun b o e => hsb₁.extBut b o (below b (hDe ▸ Heap.lt_size e)).1 (Heap.get?_push_of_some _ (hH2 ▸ Heap.get?_push_of_some _ e))
  have hacc : h₁.get? D = some (lst []) := hsb₁.extBut _ _ hDC (Heap.get?_push_of_some _ (hH2 ▸ hDe ▸ Heap.get?_push_size _ rfl))
  have fresh : ∀ a, D ≤ a → s₂.heap.get? a = none := fun a ha => by
    cases e : s₂.heap.get? a with
    | none => rfl
    | some o' => exact absurd (Heap.lt_size e) (Nat.not_lt.mpr (hDe ▸ ha))
  have fresh₀ : ∀ a, D ≤ a → h₀.get? a = none := fun a ha => by
    cases e : h₀.get? a with
    | none => rfl
    | some o' => have := F.keep a o' e; rw [fresh a ha] at this; cases this
  have hD₀ : h₀.get? D = none := fresh₀ _ (Nat.le_refl _)
  have hC₀ : h₀.get? C = none := fresh₀ _ (by rw [hC]; exact Nat.le_succ _)
  have hLlt : L < D := hDe ▸ F.ns.lt
  have hDL : D ≠ L := Ne.symm (below L hLlt).2
  have hCL : C ≠ L := Ne.symm (below L hLlt).1
  have hIlt : I < D := hDe ▸ hI
  have hCI : I ≠ C := (below I hIlt).1
  have hDI : I ≠ D := (below I hIlt).2
  have off₀ : Off3 I C D news := Off3.of fun p hp => ⟨off p hp, (below _ (hDe ▸ Heap.lt_size (N p hp).1)).1, (below _ (hDe ▸ Heap.lt_size (N p hp).1)).2⟩
  have off3 := off₀.mem
  have hst₁ : St 0 h₁ := by
    obtain ⟨oI, e⟩ := hIo _ _ hst
    exact hSt 0 _ _ oI hst e (old _ _ e) (fun b o e => old _ _ (F.keep b o e)) (N.grown old)
  have loop : ∀ s₃ : Shared, s₃ = { s₂ with heap := h₁, toks := s₂.toks + ([] : List (Str × Value)).length } →
      codeAny (model prog w) A (.compLoop (two elt (.Name x px) i0 (.Name z pz) i1 ifs scope pos) 0 (.ref I) (.ref D) (compEnvC scope cl C env)) (RR (.ref D) C) s₃ := by
    rintro s₃ rfl
    refine loop_outer
      (fun k s' => ∃ h' tk i ys m', s' = { s₂ with heap := h', toks := tk } ∧ i ≤ n ∧ k = n + 1 - i ∧ St i h' ∧ Fr h₀ L h' m ∧ h'.Ns C m' ∧ News h₀ L h' ((D, lst ys) :: news) ∧ J i ys) ?_ (n + 1)
      ⟨h₁, _, 0, [], _, rfl, Nat.zero_le _, rfl, hst₁, F.keeps old, hns₁, fun p hp => ?_, hJ⟩ (hs := hs1 _)
    · rintro k s' ⟨h', tk, i, ys, m', rfl, hi, rfl, hst', F', hn', N', hJ'⟩
      by_cases hlt : i < n
      · refine W.item i _ _ _ hlt hst' fun v h₂ tk₂ hPv hst₂ hk₂ => ?_
        refine wpAny_assign_Name (wpAny_storeName_local (lookup_relabel_local hx) (hn'.at' fun o e => hk₂ _ o (by simpa using Ne.symm hCI) e) (fun h₃ hn₃ hs₃ => ?_) (by simp [compEnvC, relabel, hkind]))
        have F₃ : Fr h₀ L h₃ m := (fr_but F' hk₂ hIL hI₀).change hs₃ hCL hC₀
        have N₂ : News h₀ L h₂ ((D, lst ys) :: news) := news_but N' hk₂ fun p hp => by
          rcases List.mem_cons.mp hp with rfl | hp
          · exact Ne.symm hDI
          · exact (off3 p hp).1
        have N₂' : News h₀ L h₃ ((D, lst ys) :: news) := fun p hp => by
          have z := N₂ p hp
          refine ⟨hs₃.extBut _ _ ?_ z.1, z.2⟩
          rcases List.mem_cons.mp hp with rfl | hp
          · exact hDC
          · exact (off3 p hp).2.1
        obtain ⟨oI, heI2⟩ := hIo _ _ hst₂
        have heI : h₃.get? I = some oI := hs₃.extBut _ _ hCI heI2
        have hst₃ : St (i + 1) h₃ := hSt _ _ _ oI hst₂ heI2 heI F₃.keep fun p hp => N₂' p (.tail _ hp)
        obtain ⟨oC, heC, hoC⟩ := ns_obj hn₃
        have N₃ : News h₀ L h₃ ((I, oI) :: (C, oC) :: (D, lst ys) :: news) := fun p hp => by
          rcases List.mem_cons.mp hp with rfl | hp
          · exact ⟨heI, Ne.symm hIL, hI₀⟩
          · rcases List.mem_cons.mp hp with rfl | hp
            · exact ⟨heC, hCL, hC₀⟩
            · exact N₂' p hp
        refine wpAny_mono (inner i v ys oI C oC D _ h₃ _ _ hlt hPv hJ' hoC (by simp) F₃ N₃ off₀ ⟨hCI, hDI, Ne.symm hDC⟩) (fun xv s₄ h₄ => wpAny_mono h₄ (fun it1 s₅ h₅ => ?_) fun _ _ e => e) fun _ _ e => e
        obtain ⟨I₁, fp₁, n₁, P₁, St₁, J₁, h₆, tk₆, rfl, rfl, W₁, hst₆, hL₁, hI₁, hC₁, hD₁, hn₁, h₀₁, F₆, N₆, hIo₁, hSt₁, hJ₁, hlen₁, hJn, turn₁⟩ := h₅
        have inLoop : ∀ s₇ : Shared, s₇ = { s₂ with heap := h₆, toks := tk₆ } → ∀ RX : Result → Shared → Prop,
            (∀ h' tk' ys' m', Fr h₀ L h' m → h'.Ns C m' → News h₀ L h' ((I, oI) :: (D, lst ys') :: news) → J₁ n₁ ys' → RX (.ok .next) { s₂ with heap := h', toks := tk' }) →
            codeAny (model prog w) A (.compLoop (two elt (.Name x px) i0 (.Name z pz) i1 ifs scope pos) 1 (.ref I₁) (.ref D) (compEnvC scope cl C env)) RX s₇ := by
          rintro s₇ rfl RX hRX
          refine loop_inner
            (fun k s' => ∃ h' tk j ys' m', s' = { s₂ with heap := h', toks := tk } ∧ j ≤ n₁ ∧ k = n₁ + 1 - j ∧ St₁ j h' ∧ Fr h₀ L h' m ∧ h'.Ns C m' ∧ m' x = some v ∧ News h₀ L h' ((I, oI) :: (D, lst ys') :: news) ∧ J₁ j ys') ?_ (n₁ + 1)
            ⟨h₆, tk₆, 0, ys, _, rfl, Nat.zero_le _, rfl, hst₆, F₆, hoC.ns (N₆ (C, oC) (.tail _ (.head _))).1, by simp, fun p hp => ?_, hJ₁⟩
          · rintro k s' ⟨h', tk', j, ys', m₁', rfl, hj, rfl, hst', F', hn', hv', N', hJ'⟩
            by_cases hlt₁ : j < n₁
            · refine W₁.item j _ _ _ hlt₁ hst' fun u h₂' tk₂' hPu hst₂' hk₂' => ?_
              refine wpAny_assign_Name (wpAny_storeName_local (lookup_relabel_local hz) (hn'.at' fun o e => hk₂' _ o (by simpa using hC₁) e) (fun h₃' hn₃' hs₃' => ?_) (by simp [compEnvC, relabel, hkind]))
              have F₃' : Fr h₀ L h₃' m := (fr_but F' hk₂' hL₁ h₀₁).change hs₃' hCL hC₀
              have N₄ : News h₀ L h₂' ((I, oI) :: (D, lst ys') :: news) := news_but N' hk₂' fun p hp => by
                rcases List.mem_cons.mp hp with rfl | hp
                · exact hI₁
                rcases List.mem_cons.mp hp with rfl | hp
                · exact hD₁
                · exact hn₁ p hp
              have N₅ : News h₀ L h₃' ((I, oI) :: (D, lst ys') :: news) := fun p hp => by
                have z := N₄ p hp
                refine ⟨hs₃'.extBut _ _ ?_ z.1, z.2⟩
                rcases List.mem_cons.mp hp with rfl | hp
                · exact hCI
                rcases List.mem_cons.mp hp with rfl | hp
                · exact hDC
                · exact (off3 p hp).2.1
              obtain ⟨oI₁, heI₁⟩ := hIo₁ _ _ hst₂'
              have heI₁' : h₃'.get? I₁ = some oI₁ := hs₃'.extBut _ _ (Ne.symm hC₁) heI₁
              have hst₃' : St₁ (j + 1) h₃' := hSt₁ _ _ _ oI₁ hst₂' heI₁ heI₁' F₃'.keep fun p hp => N₅ p (.tail _ (.tail _ hp))
              obtain ⟨oC', heC', hoC'⟩ := ns_obj hn₃'
              have N₇ : News h₀ L h₃' ((I₁, oI₁) :: (I, oI) :: (C, oC') :: (D, lst ys') :: news) := fun p hp => by
                rcases List.mem_cons.mp hp with rfl | hp
                · exact ⟨heI₁', Ne.symm hL₁, h₀₁⟩
                rcases List.mem_cons.mp hp with rfl | hp
                · exact N₅ _ (.head _)
                rcases List.mem_cons.mp hp with rfl | hp
                · exact ⟨heC', hCL, hC₀⟩
                · exact N₅ _ (.tail _ hp)
              refine wpAny_mono (turn₁ j u ys' oC' _ oI₁ h₃' _ _ hlt₁ hPu hJ' hoC' (by simp [hxz, hv']) (by simp) F₃' N₇) (fun ok s₅ h₅ => ?_) fun _ _ e => e
              cases ok with
              | true =>
                simp only [if_true] at h₅ ⊢
                refine wpAny_mono h₅ (fun y s₆ h₆' => ?_) fun _ _ e => e
                obtain ⟨h₇, tk₇, rfl, F₇, N₈, hJ₇⟩ := h₆'
                have zI₁ := (N₈ (I₁, oI₁) (.head _)).1
                have zI := (N₈ (I, oI) (.tail _ (.head _)))
                have zC := (N₈ (C, oC') (.tail _ (.tail _ (.head _)))).1
                have zD := (N₈ (D, lst ys') (.tail _ (.tail _ (.tail _ (.head _))))).1
                have N₉ : News h₀ L h₇ news := fun p hp => N₈ p (.tail _ (.tail _ (.tail _ (.tail _ hp))))
                have hst₇ : St₁ (j + 1) h₇ := hSt₁ _ _ _ _ hst₃' heI₁' zI₁ F₇.keep N₉
                refine append_at (hsz := by show ys'.toArray.size ≤ sizeLine; rw [List.size_toArray, sizeLine_eq]; have := hlen₁ _ _ hJ'; omega) zD fun h₈ hs₈ hD₈ => ?_
                have N₁₀ : News h₀ L h₈ news := fun p hp => ⟨hs₈.extBut _ _ (off3 p hp).2.2 (N₉ p hp).1, (N₉ p hp).2⟩
                have F₈ := F₇.change hs₈ hDL hD₀
                refine ⟨n₁ + 1 - (j + 1), by omega, h₈, tk₇, j + 1, ys' ++ [y], _, rfl, hlt₁, rfl, hSt₁ _ _ _ _ hst₇ zI₁ (hs₈.extBut _ _ (Ne.symm hD₁) zI₁) F₈.keep N₁₀, F₈, (hoC'.ns zC).sameBut hs₈ (Ne.symm hDC), by simp [hxz, hv'], fun p hp => ?_, hJ₇⟩
                rcases List.mem_cons.mp hp with rfl | hp
                · exact ⟨hs₈.extBut _ _ hDI zI.1, zI.2⟩
                rcases List.mem_cons.mp hp with rfl | hp
                · exact ⟨hD₈.trans (congrArg some (lst_snoc ys' y)), hDL, hD₀⟩
                · exact N₁₀ p hp
              | false =>
                simp only [Bool.false_eq_true, if_false] at h₅ ⊢
                obtain ⟨h₇, tk₇, rfl, F₇, N₈, hJ₇⟩ := h₅
                have zI₁ := (N₈ (I₁, oI₁) (.head _)).1
                have zC := (N₈ (C, oC') (.tail _ (.tail _ (.head _)))).1
                have N₉ : News h₀ L h₇ news := fun p hp => N₈ p (.tail _ (.tail _ (.tail _ (.tail _ hp))))
                refine ⟨n₁ + 1 - (j + 1), by omega, h₇, tk₇, j + 1, ys', _, rfl, hlt₁, rfl, hSt₁ _ _ _ _ hst₃' heI₁' zI₁ F₇.keep N₉, F₇, hoC'.ns zC, by simp [hxz, hv'], fun p hp => ?_, hJ₇⟩
                rcases List.mem_cons.mp hp with rfl | hp
                · exact N₈ _ (.tail _ (.head _))
                · exact N₈ p (.tail _ (.tail _ (.tail _ hp)))
            · obtain rfl : j = n₁ := by omega
              refine W₁.done _ _ _ hst' fun h₂' tk₂' hk₂' => ?_
              refine hRX h₂' tk₂' ys' _ (fr_but F' hk₂' hL₁ h₀₁) (hn'.at' fun o e => hk₂' _ o (by simpa using hC₁) e) (news_but N' hk₂' fun p hp => ?_) hJ'
              rcases List.mem_cons.mp hp with rfl | hp
              · exact hI₁
              rcases List.mem_cons.mp hp with rfl | hp
              · exact hD₁
              · exact hn₁ p hp
          · rcases List.mem_cons.mp hp with rfl | hp
            · exact N₆ _ (.head _)
            · exact N₆ p (.tail _ (.tail _ hp))
        have back : ∀ h' tk' ys' m', Fr h₀ L h' m → h'.Ns C m' → News h₀ L h' ((I, oI) :: (D, lst ys') :: news) → J₁ n₁ ys' →
            ∃ k, k < n + 1 - i ∧ ∃ h'' tk i ys m', ({ s₂ with heap := h', toks := tk' } : Shared) = { s₂ with heap := h'', toks := tk } ∧ i ≤ n ∧ k = n + 1 - i ∧ St i h'' ∧ Fr h₀ L h'' m ∧ h''.Ns C m' ∧ News h₀ L h'' ((D, lst ys) :: news) ∧ J i ys :=
          fun h' tk' ys' m' F' hn' N' hJ' => ⟨n + 1 - (i + 1), by omega, h', tk', i + 1, ys', m', rfl, hlt, rfl, hSt _ _ _ oI hst₃ heI (N' _ (.head _)).1 F'.keep fun p hp => N' p (.tail _ (.tail _ hp)), F', hn', fun p hp => N' p (.tail _ hp), hJn _ hJ'⟩
        exact start_two (.inr rfl) (inLoop _ rfl _ back) (W₁.self 0 _ _ _ hst₆ (inLoop _ rfl _ back))
      · obtain rfl : i = n := Nat.le_antisymm hi (Nat.not_lt.mp hlt)
        refine W.done _ _ _ hst' fun h₂ tk₂ hk₂ => ?_
        exact hRR _ _ h₂ tk₂ _ ys (fr_but F' hk₂ hIL hI₀) (news_but N' hk₂ fun p hp => by
          rcases List.mem_cons.mp hp with rfl | hp
          · exact Ne.symm hDI
          · exact (off3 p hp).1) off₀.one (hn'.at' fun o e => hk₂ _ o (by simpa using Ne.symm hCI) e) hC₀ hD₀ hCL hDL (Ne.symm hDC) (fun p hp => (off3 p hp).2.1) hJ'
    · rcases List.mem_cons.mp hp with rfl | hp
      · exact ⟨hacc, hDL, hD₀⟩
      · exact ⟨old _ _ (N p hp).1, (N p hp).2⟩
  have key := start_two (.inl rfl) (loop _ rfl) (W.self 0 _ (fun it' s' => codeAny (model prog w) A (.compLoop (two elt (.Name x px) i0 (.Name z pz) i1 ifs scope pos) 0 it' (.ref D) (compEnvC scope cl C env)) (RR (.ref D) C) s') _ hst₁ (loop _ rfl))
  exact key
def SrcN (prog : Program) (w : World) (A : Around) (h₀ : Heap) (L : Addr) (m : Str → Option Value) (env : Env) (elt i1 : PySem.Expr) (ifs : List PySem.Expr) (x z : Str) (scope : Scope) (cl : List (Str × Addr)) (Fin : List Value → Led → Shared → Prop) (xv : Value) (s₁ : Shared) : Prop :=
  ∃ (ax : Addr) (its : Array Value) (k : Nat) (news : Led) (J : Nat → List Value → Prop), xv = .ref ax ∧ A.handled = none ∧ Fr h₀ L s₁.heap m ∧ News h₀ L s₁.heap news ∧ (ax, W.listOf its k) ∈ news ∧ J 0 [] ∧
    (∀ s₂ : Shared, (∃ h, s₂ = { s₁ with heap := h }) → ∀ i v ys oI I C oC D m₂ h tk E', i < its.size → its[i]? = some v → J i ys → NsObj oC m₂ → m₂ x = some v → Fr h₀ L h m → News h₀ L h ((I, oI) :: (C, oC) :: (D, lst ys) :: news) → Off3 I C D news → ((@Ne Nat I C) ∧ (@Ne Nat I D) ∧ (@Ne Nat C D)) →
      wpAny (model prog w) A (eval i1 (compEnvC scope cl C env)) (fun xv s₃ => wpAny (model prog w) A (pyIter xv) (InnerN prog w A h₀ L m env elt ifs x z scope cl s₂ news I C D oI oC v ys (J (i + 1))) E' s₃) E' { s₂ with heap := h, toks := tk }) ∧
    ∀ ys, J its.size ys → Fin ys news s₁
theorem ListComp_N {elt i0 i1 : PySem.Expr} {ifs : List PySem.Expr} {x z : Str} {px pz : Pos} {scope : Scope} {cl : List (Str × Addr)} {pos : Pos} {Q : Value → Shared → Prop} (_F₀ : Fr h₀ L s.heap m)
    (hclos : closureFor scope env = pure cl) (hcell : ∀ y ∈ scope.names, y.2 ≠ .cell) (hkind : scope.kind = .function)
    (hnames : ∀ y ∈ scope.names, y.2 = .local → scope.names.lookup y.1 = some .local) (hx : scope.names.lookup x = some .local) (hz : scope.names.lookup z = some .local) (hxz : x ≠ z)
    (h : wpAny (model prog w) A (eval i0 env) (SrcN prog w A h₀ L m env elt i1 ifs x z scope cl (fun ys news s₁ => ∀ D h tk, Fr h₀ L h m → News h₀ L h ((D, lst ys) :: news) → Off1 D news → Q (.ref D) { s₁ with heap := h, toks := tk })) E s)
    (hs : ∀ x, foldedSetIterable i0 env x = pure x := by intro _; rfl) (hs1 : ∀ env x, foldedSetIterable i1 env x = pure x := by intro _ _; rfl) :
    wpAny (model prog w) A (eval (.ListComp elt [⟨.Name x px, i0, [], 0⟩, ⟨.Name z pz, i1, ifs, 0⟩] scope pos) env) Q E s := by
  rw [eval_ListComp]
  refine wpAny_comprehension_free (use := none) rfl hs hclos hkind hnames (wpAny_mono h (fun xv s₁ h₁ => ?_) fun _ _ e => e)
  obtain ⟨ax, its, k, news, J, rfl, hh, F, N, hm, hJ, inner, fin⟩ := h₁
  have hl := News.isList N hm
  have hlt : ax < s₁.heap.objs.size := by obtain ⟨_, e, _⟩ := hl; exact Heap.lt_size e
  refine wpAny_pyIter_list hl ?_
  have up : ∀ b o, s₁.heap.get? b = some o → (s₁.heap.push { cls := .type "list_iterator", data := .fields #[.ref ax, .int 0 0] }).get? b = some o := fun b o e => Heap.get?_push_of_some _ e
  refine block_N J (Walks.list hh s₁.heap.objs.size ax (Nat.ne_of_lt hlt) its) (fun i h st => by obtain ⟨o, e, _⟩ := st.1; exact ⟨o, e⟩) ?_ hcell hkind hx hz hxz ⟨⟨_, Heap.get?_push_size _ rfl, rfl, rfl⟩, hl.push _⟩ ?_
    (F.keeps up) (N.grown up) (Nat.ne_of_lt F.ns.lt) (next_is_new F) (fun p hp => Nat.ne_of_lt (Heap.lt_size (N p hp).1)) hJ (fun i v ys oI C oC D m₂ h tk E' hi hv => inner _ ⟨_, rfl⟩ i v ys oI _ C oC D m₂ h tk E' hi hv) hs1 ?_
  · intro i h h' o st e e' _ N'
    exact ⟨by obtain ⟨o', q, r⟩ := st.1; rw [e] at q; cases q; exact ⟨o, e', r⟩, News.isList N' hm⟩
  · show s₁.heap.objs.size < (s₁.heap.push _).objs.size
    rw [Heap.size_push]; exact Nat.lt_succ_self _
  · intro D C h tk m' ys F' N' o1 hn hC₀ hD₀ hCL hDL hCD offC hJn
    refine ⟨m', hn, fun h'' hs'' => fin ys hJn D h'' tk (F'.change hs'' hCL hC₀) (fun p hp => ?_) o1⟩
    refine ⟨hs''.extBut _ _ ?_ (N' p hp).1, (N' p hp).2⟩
    rcases List.mem_cons.mp hp with rfl | hp
    · exact Ne.symm hCD
    · exact offC p hp
theorem Assign_ListComp_N {elt i0 i1 : PySem.Expr} {ifs : List PySem.Expr} {x z y : Str} {px pz py : Pos} {scope : Scope} {cl : List (Str × Addr)} {pos spos : Pos} {Q : Flow → Shared → Prop} (_F₀ : Fr h₀ L s.heap m) (hLe : env.locals = L)
    (hsw : swapsWith (.ListComp elt [⟨.Name x px, i0, [], 0⟩, ⟨.Name z pz, i1, ifs, 0⟩] scope pos) (some (.Name y py)) spos.line env = pure true)
    (hclos : closureFor scope env = pure cl) (hcell : ∀ y ∈ scope.names, y.2 ≠ .cell) (hkind : scope.kind = .function)
    (hnames : ∀ y ∈ scope.names, y.2 = .local → scope.names.lookup y.1 = some .local) (hx : scope.names.lookup x = some .local) (hz : scope.names.lookup z = some .local) (hxz : x ≠ z)
    (hy : env.kindOf y = some .local) (hp : (env.scope.kind == .class || (env.scope.kind == .module && env.locals != env.globals)) = false)
    (h : wpAny (model prog w) A (eval i0 env) (SrcN prog w A h₀ L m env elt i1 ifs x z scope cl (fun ys news s₁ => ∀ D h tk, Fr h₀ L h (fun q => if q = y then some (.ref D) else m q) → News h₀ L h ((D, lst ys) :: news) → Off1 D news → Q .next { s₁ with heap := h, toks := tk })) E s)
    (hs : ∀ x, foldedSetIterable i0 env x = pure x := by intro _; rfl) (hs1 : ∀ env x, foldedSetIterable i1 env x = pure x := by intro _ _; rfl) :
    wpAny (model prog w) A (exec (.Assign [.Name y py] (.ListComp elt [⟨.Name x px, i0, [], 0⟩, ⟨.Name z pz, i1, ifs, 0⟩] scope pos) spos) env) Q E s := by
  subst hLe
  rw [exec_Assign_Name_used _ _ _ _ hsw]
  refine wpAny_bind (wpAny_standAt (wpAny_bind ?_))
  show wpAny _ A (do let _ ← comprehension (.ListComp elt [⟨.Name x px, i0, [], 0⟩, ⟨.Name z pz, i1, ifs, 0⟩] scope pos) scope env _ (newList []) false (eval i0 env) (some (assign (.Name y py) env))) _ _ s
  refine wpAny_bind (wpAny_mono (wpAny_comprehension_free (use := some (assign (.Name y py) env)) (Q := fun _ s' => Q .next s') rfl hs hclos hkind hnames
    (wpAny_mono h (fun xv s₁ h₁ => ?_) fun _ _ e => e)) (fun _ s' hq => wpAny_pure (wpAny_pure hq)) fun _ _ e => e)
  obtain ⟨ax, its, k, news, J, rfl, hh, F, N, hm, hJ, inner, fin⟩ := h₁
  have hl := News.isList N hm
  have hlt : ax < s₁.heap.objs.size := by obtain ⟨_, e, _⟩ := hl; exact Heap.lt_size e
  refine wpAny_pyIter_list hl ?_
  have up : ∀ b o, s₁.heap.get? b = some o → (s₁.heap.push { cls := .type "list_iterator", data := .fields #[.ref ax, .int 0 0] }).get? b = some o := fun b o e => Heap.get?_push_of_some _ e
  refine block_N J (Walks.list hh s₁.heap.objs.size ax (Nat.ne_of_lt hlt) its) (fun i h st => by obtain ⟨o, e, _⟩ := st.1; exact ⟨o, e⟩) ?_ hcell hkind hx hz hxz ⟨⟨_, Heap.get?_push_size _ rfl, rfl, rfl⟩, hl.push _⟩ ?_
    (F.keeps up) (N.grown up) (Nat.ne_of_lt F.ns.lt) (next_is_new F) (fun p hp => Nat.ne_of_lt (Heap.lt_size (N p hp).1)) hJ (fun i v ys oI C oC D m₂ h tk E' hi hv => inner _ ⟨_, rfl⟩ i v ys oI _ C oC D m₂ h tk E' hi hv) hs1 ?_
  · intro i h h' o st e e' _ N'
    exact ⟨by obtain ⟨o', q, r⟩ := st.1; rw [e] at q; cases q; exact ⟨o, e', r⟩, News.isList N' hm⟩
  · show s₁.heap.objs.size < (s₁.heap.push _).objs.size
    rw [Heap.size_push]; exact Nat.lt_succ_self _
  · intro D C h' tk m' ys F' N' o1 hn hC₀ hD₀ hCL hDL hCD offC hJn
    show wpAny _ A (assign (.Name y py) env (.ref D)) _ _ _
    refine wpAny_assign_Name (wpAny_storeName_local hy F'.ns (fun h₂ hn₂ hs₂ => ?_) hp)
    have hL₀ : h₀.get? env.locals = none := Heap.get?_none_of_le F'.above
    have F₂ : Fr h₀ env.locals h₂ (fun q => if q = y then some (.ref D) else m q) := ⟨hn₂, fun b o e => hs₂.extBut b o (fun q => by rw [q, hL₀] at e; cases e) (F'.keep b o e), F'.above⟩
    refine ⟨m', hn.sameBut hs₂ hCL, fun h'' hs'' => fin ys hJn D h'' _ (F₂.change hs'' hCL hC₀) (fun p hp => ?_) o1⟩
    have z : h₂.get? p.1 = some p.2 := hs₂.extBut _ _ (N' p hp).2.1 (N' p hp).1
    refine ⟨hs''.extBut _ _ ?_ z, (N' p hp).2⟩
    rcases List.mem_cons.mp hp with rfl | hp
    · exact Ne.symm hCD
    · exact offC p hp
end
end Mine
open PySem PySem.W PyProof.Rows
set_option Elab.async false
set_option maxRecDepth 100000
namespace Mine
open PyProof.Rows.LCg PyProof PySem.SeqAt PySem.Calls
section
variable {prog : Program} {w : World} {A : Around} {E : Value → Shared → Prop} {s : Shared} {h₀ : Heap} {L : Addr} {m : Str → Option Value} {env : Env}
theorem inner_list {elt ct : PySem.Expr} {x z : Str} {scope : Scope} {cl : List (Str × Addr)} {s₂ : Shared} {news : Led} {I C D r : Addr} {oI oC : Obj} {v : Value} {ys row : List Value} {Jn : List Value → Prop} {h : Heap} {tk c : Nat}
    (J₁ : Nat → List Value → Prop) (hh : A.handled = none) (F : Fr h₀ L h m) (N : News h₀ L h ((I, oI) :: (C, oC) :: (D, lst ys) :: news)) (hm : (r, W.listOf row.toArray c) ∈ news)
    (hJ : J₁ 0 ys) (hlen : ∀ j ys', J₁ j ys' → ys'.length ≤ 100000) (hJn : ∀ ys', J₁ row.length ys' → Jn ys')
    (turn : ∀ (j : Nat) u ys' oC' m₃ (I₁ : Addr) oI₁ h tk E', row[j]? = some u → J₁ j ys' → NsObj oC' m₃ → m₃ x = some v → m₃ z = some u → Fr h₀ L h m → News h₀ L h ((I₁, oI₁) :: (I, oI) :: (C, oC') :: (D, lst ys') :: news) →
      wpAny (model prog w) A (isTrue ct (compEnvC scope cl C env) (eval ct (compEnvC scope cl C env))) (fun ok s₅ =>
        if ok = true then wpAny (model prog w) A (eval elt (compEnvC scope cl C env)) (fun y s₆ => BackN h₀ L m s₂ ((I₁, oI₁) :: (I, oI) :: (C, oC') :: (D, lst ys') :: news) (J₁ (j + 1) (ys' ++ [y])) s₆) E' s₅
        else BackN h₀ L m s₂ ((I₁, oI₁) :: (I, oI) :: (C, oC') :: (D, lst ys') :: news) (J₁ (j + 1) ys') s₅) E' { s₂ with heap := h, toks := tk }) :
    wpAny (model prog w) A (pyIter (.ref r)) (InnerN prog w A h₀ L m env elt [ct] x z scope cl s₂ news I C D oI oC v ys Jn) E { s₂ with heap := h, toks := tk } := by
  have hl : h.IsList r row.toArray := News.isList N (.tail _ (.tail _ (.tail _ hm)))
  have hlt : r < h.objs.size := by obtain ⟨_, e, _⟩ := hl; exact Heap.lt_size e
  refine wpAny_pyIter_list hl ?_
  have up : ∀ b o, h.get? b = some o → (h.push { cls := .type "list_iterator", data := .fields #[.ref r, .int 0 0] }).get? b = some o := fun b o e => Heap.get?_push_of_some _ e
  have ne : ∀ p ∈ (I, oI) :: (C, oC) :: (D, lst ys) :: news, p.1 ≠ h.objs.size := fun p hp => Nat.ne_of_lt (Heap.lt_size (N p hp).1)
  refine ⟨h.objs.size, [h.objs.size, r], row.toArray.size, _, _, J₁, _, _, rfl, rfl, Walks.list hh h.objs.size r (Nat.ne_of_lt hlt) row.toArray, ⟨⟨_, Heap.get?_push_size _ rfl, rfl, rfl⟩, hl.push _⟩, Nat.ne_of_lt F.ns.lt, ne _ (.head _), ne _ (.tail _ (.head _)), ne _ (.tail _ (.tail _ (.head _))),
    fun p hp => ne p (.tail _ (.tail _ (.tail _ hp))), next_is_new F, F.keeps up, N.grown up, fun i h st => by obtain ⟨o, e, _⟩ := st.1; exact ⟨o, e⟩, ?_, hJ, hlen, ?_, ?_⟩
  · intro i h h' o st e e' _ N'
    exact ⟨by obtain ⟨o', q, r⟩ := st.1; rw [e] at q; cases q; exact ⟨o, e', r⟩, News.isList N' hm⟩
  · intro ys' hj; exact hJn ys' (by simpa using hj)
  · intro j u ys' oC' m₃ oI₁ h tk E' hj hP hJ' hN hx hz F' N'
    refine wpAny_tests_one ?_
    exact turn j u ys' oC' m₃ _ oI₁ h tk E' (by simpa using hP) hJ' hN hx hz F' N'
theorem inner_range {elt ct : PySem.Expr} {x z : Str} {scope : Scope} {cl : List (Str × Addr)} {s₂ : Shared} {news : Led} {I C D r : Addr} {oI oC : Obj} {v : Value} {ys : List Value} {Jn : List Value → Prop} {h : Heap} {tk : Nat} {b : Int} {t1 t2 t3 : Tok} (n : Nat)
    (J₁ : Nat → List Value → Prop) (hh : A.handled = none) (hr : IsRange h r 0 b 1 t1 t2 t3) (hb : b = (n : Int)) (hn : n ≤ 1000) (F : Fr h₀ L h m) (N : News h₀ L h ((I, oI) :: (C, oC) :: (D, lst ys) :: news))
    (hJ : J₁ 0 ys) (hlen : ∀ j ys', J₁ j ys' → ys'.length ≤ 100000) (hJn : ∀ ys', J₁ n ys' → Jn ys')
    (turn : ∀ (j : Nat) t ys' oC' m₃ (I₁ : Addr) oI₁ h tk E', j < n → J₁ j ys' → NsObj oC' m₃ → m₃ x = some v → m₃ z = some (.int (j : Int) t) → Fr h₀ L h m → News h₀ L h ((I₁, oI₁) :: (I, oI) :: (C, oC') :: (D, lst ys') :: news) →
      wpAny (model prog w) A (isTrue ct (compEnvC scope cl C env) (eval ct (compEnvC scope cl C env))) (fun ok s₅ =>
        if ok = true then wpAny (model prog w) A (eval elt (compEnvC scope cl C env)) (fun y s₆ => BackN h₀ L m s₂ ((I₁, oI₁) :: (I, oI) :: (C, oC') :: (D, lst ys') :: news) (J₁ (j + 1) (ys' ++ [y])) s₆) E' s₅
        else BackN h₀ L m s₂ ((I₁, oI₁) :: (I, oI) :: (C, oC') :: (D, lst ys') :: news) (J₁ (j + 1) ys') s₅) E' { s₂ with heap := h, toks := tk }) :
    wpAny (model prog w) A (pyIter (.ref r)) (InnerN prog w A h₀ L m env elt [ct] x z scope cl s₂ news I C D oI oC v ys Jn) E { s₂ with heap := h, toks := tk } := by
  subst hb
  have hsm : Builtin.Range.small 0 (n : Int) 1 = true := small_one (by omega) (by omega) (by omega) (by omega)
  refine wpAny_pyIter_range hr hsm ?_
  have ne : ∀ p ∈ (I, oI) :: (C, oC) :: (D, lst ys) :: news, p.1 ≠ h.objs.size := fun p hp => Nat.ne_of_lt (Heap.lt_size (N p hp).1)
  have hn' : Builtin.Range.rangeSize 0 (n : Int) 1 = (n : Int) := by rw [rangeSize_nat]; omega
  refine ⟨h.objs.size, [h.objs.size], n, _, _, J₁, _, _, rfl, rfl, range_walks hh 0 n, ?_, Nat.ne_of_lt F.ns.lt, ne _ (.head _), ne _ (.tail _ (.head _)), ne _ (.tail _ (.tail _ (.head _))),
    fun p hp => ne p (.tail _ (.tail _ (.tail _ hp))), next_is_new F, F.keeps (fun _ _ e => Heap.get?_push_of_some _ e), N.grown (fun _ _ e => Heap.get?_push_of_some _ e), fun i h st => ⟨_, st⟩, ?_, hJ, hlen, hJn, ?_⟩
  · show IsRangeIter _ _ _ _ _
    rw [hn']
    simpa using Heap.get?_push_size _ rfl
  · intro i h h' o st e e' _ N'
    have st' : h.get? _ = some _ := st
    show h'.get? _ = some _
    rw [e', ← e]; exact st'
  · intro j u ys' oC' m₃ oI₁ h tk E' hj hP hJ' hN hx hz F' N'
    obtain ⟨t, rfl⟩ := hP
    rw [Int.zero_add] at hz
    refine wpAny_tests_one ?_
    exact turn j t ys' oC' m₃ _ oI₁ h tk E' hj hJ' hN hx hz F' N'
end
theorem CompRestT_ind {prog : Program} {w : World} {A : Around} {h₀ : Heap} {L : Addr} {m : Str → Option Value} {env : Env} {ct elt : PySem.Expr} {x : Str} {scope : Scope} {cl : List (Str × Addr)} {s : Shared} {S : Led → Prop} {P : Nat → Value → Prop} {Fin : List Value → Led → Prop} {n : Nat}
    (J : Nat → List Value → Prop) (news : Led) (hS : S news)
    (step : ∀ i ys v I oI C oC D m₂ h tk (E' : Value → Shared → Prop), i < n → J i ys → P i v → NsObj oC m₂ → m₂ x = some v → Fr h₀ L h m → News h₀ L h ((I, oI) :: (C, oC) :: (D, lst ys) :: news) → Off3 I C D news → ((@Ne Nat I C) ∧ (@Ne Nat I D) ∧ (@Ne Nat C D)) →
      wpAny (model prog w) A (isTrue ct (compEnvC scope cl C env) (eval ct (compEnvC scope cl C env))) (fun ok s' => if ok = true then
        wpAny (model prog w) A (eval elt (compEnvC scope cl C env)) (fun y s₆ => BackN h₀ L m s ((I, oI) :: (C, oC) :: (D, lst ys) :: news) (J (i + 1) (ys ++ [y])) s₆) E' s'
        else BackN h₀ L m s ((I, oI) :: (C, oC) :: (D, lst ys) :: news) (J (i + 1) ys) s') E' { s with heap := h, toks := tk })
    (fin : ∀ ys, J n ys → Fin ys news) : ∀ k i ys, i + k = n → J i ys → LCt.CompRestT prog w A h₀ L m env ct elt x scope cl s S P Fin k i ys news
  | 0, i, ys, e, hJ => LCt.CompRestT.zero (fin ys (by have e' : i = n := by omega
                                                      subst e'; exact hJ))
  | k + 1, i, ys, e, hJ => LCt.CompRestT.succ fun v I oI C oC D m₂ h tk E' hP hN hx F N off ne =>
      wpAny_mono (step i ys v I oI C oC D m₂ h tk E' (by omega) hJ hP hN hx F N off ne) (fun ok s' z => by
        cases ok with
        | true =>
          simp only [if_true] at z ⊢
          refine wpAny_mono z (fun y s₆ z => ?_) fun _ _ e => e
          obtain ⟨h', tk', e1, F', N', hJ'⟩ := z
          exact ⟨h', tk', news, e1, F', N', off, hS, CompRestT_ind J news hS step fin k (i + 1) (ys ++ [y]) (by omega) hJ'⟩
        | false =>
          simp only [Bool.false_eq_true, if_false] at z ⊢
          obtain ⟨h', tk', e1, F', N', hJ'⟩ := z
          exact ⟨h', tk', news, e1, F', N', off, hS, CompRestT_ind J news hS step fin k (i + 1) ys (by omega) hJ'⟩) fun _ _ z => z
theorem CompRestU_ind {prog : Program} {w : World} {A : Around} {h₀ : Heap} {L : Addr} {m : Str → Option Value} {env : Env} {elt : PySem.Expr} {x : Str} {scope : Scope} {cl : List (Str × Addr)} {s : Shared} {S : Led → Prop} {P : Nat → Value → Prop} {Fin : List Value → Led → Prop} {n : Nat}
    (J : Nat → List Value → Prop) (news : Led) (hS : S news)
    (step : ∀ i ys v I oI C oC D m₂ h tk (E' : Value → Shared → Prop), i < n → J i ys → P i v → NsObj oC m₂ → m₂ x = some v → Fr h₀ L h m → News h₀ L h ((I, oI) :: (C, oC) :: (D, lst ys) :: news) → Off3 I C D news → ((@Ne Nat I C) ∧ (@Ne Nat I D) ∧ (@Ne Nat C D)) →
        wpAny (model prog w) A (eval elt (compEnvC scope cl C env)) (fun y s₆ => BackN h₀ L m s ((I, oI) :: (C, oC) :: (D, lst ys) :: news) (J (i + 1) (ys ++ [y])) s₆) E' { s with heap := h, toks := tk })
    (fin : ∀ ys, J n ys → Fin ys news) : ∀ k i ys, i + k = n → J i ys → CompRest prog w A h₀ L m env elt x scope cl s S P Fin k i ys news
  | 0, i, ys, e, hJ => CompRest.zero (fin ys (by have e' : i = n := by omega
                                                 subst e'; exact hJ))
  | k + 1, i, ys, e, hJ => CompRest.succ fun v I oI C oC D m₂ h tk E' hP hN hx F N off ne =>
      wpAny_mono (step i ys v I oI C oC D m₂ h tk E' (by omega) hJ hP hN hx F N off ne) (fun y s₆ z => by
          obtain ⟨h', tk', e1, F', N', hJ'⟩ := z
          exact ⟨h', tk', news, e1, F', N', off, hS, CompRestU_ind J news hS step fin k (i + 1) (ys ++ [y]) (by omega) hJ'⟩) fun _ _ z => z
def pdO : Option Int → PyData
  | none => .none
  | some n => .int n
theorem CA.reads {h : Heap} : ∀ {vs : List Value} {cs : List (Option Int)}, CA vs cs → ReadsAll h vs (cs.map pdO) []
  | _, _, .nil => .nil
  | _, _, .nn r => by
    have := ReadsAll.cons (Reads.none (h := h)) (r.reads (h := h))
    simpa [pdO] using this
  | _, _, .ii n t r => by
    have := ReadsAll.cons (Reads.int (h := h) n t) (r.reads (h := h))
    simpa [pdO] using this
theorem canLay_pd : ∀ cs : List (Option Int), PyData.canLayAll0 (cs.map pdO) = true
  | [] => by simp [PyData.canLayAll0]
  | c :: r => by cases c <;> simp [PyData.canLayAll0, PyData.canLay0, pdO, canLay_pd r]
theorem depth_pd : ∀ cs : List (Option Int), PyData.depthAll (cs.map pdO) ≤ 1
  | [] => by simp [PyData.depthAll]
  | c :: r => by
    have := depth_pd r
    cases c <;> simp only [List.map_cons, PyData.depthAll, PyData.depth, pdO] <;> omega
theorem shaped_pd (cs : List (Option Int)) : shaped (.list (cs.map pdO)) = true := by
  have h1 := depth_pd cs
  have h2 : PyData.depth (.list (cs.map pdO)) ≤ 64 := by simp only [PyData.depth]; omega
  show (PyData.canLay0 (.list (cs.map pdO)) && decide (PyData.depth (.list (cs.map pdO)) ≤ 64)) = true
  rw [Bool.and_eq_true]
  exact ⟨by simp only [PyData.canLay0]; exact canLay_pd cs, decide_eq_true h2⟩
theorem noMix_pd : ∀ cs ds : List (Option Int), noMixAll (cs.map pdO) (ds.map pdO) = true
  | [], [] => by simp [noMixAll]
  | [], _ :: _ => by simp [noMixAll]
  | _ :: _, [] => by simp [noMixAll]
  | c :: r, d :: q => by cases c <;> cases d <;> simp [noMixAll, noMix, pdO, noMix_pd r q]
theorem same_pd : ∀ cs ds : List (Option Int), PySem.Spec.sameAll (cs.map pdO) (ds.map pdO) = decide (cs = ds)
  | [], [] => by simp [PySem.Spec.sameAll]
  | [], _ :: _ => by simp [PySem.Spec.sameAll]
  | _ :: _, [] => by simp [PySem.Spec.sameAll]
  | c :: r, d :: q => by
    simp only [List.map_cons, PySem.Spec.sameAll, same_pd r q]
    cases c <;> cases d <;> simp [PySem.Spec.same, pdO]
    rename_i a b; by_cases e : a = b <;> simp [e]
theorem eq_rows {prog : Program} {w : World} {A : Around} {E : Value → Shared → Prop} {s : Shared} {a b : Addr} {vs us : List Value} {cs ds : List (Option Int)} {Q : Value → Shared → Prop} (hl : s.heap.IsList a vs.toArray) (hi : CA vs cs) (hl' : s.heap.IsList b us.toArray) (hi' : CA us ds) (hu : A.units + 64 < cLine)
    (h : Q (.bool (decide (cs = ds))) s) : wpAny (model prog w) A (compareOp .Eq (.ref a) (.ref b)) Q E s := by
  obtain ⟨o, ho, hc, n, hd⟩ := hl
  obtain ⟨o', ho', hc', n', hd'⟩ := hl'
  exact eq_dataH_same (Reads.list ho hc hd (by simpa using hi.reads)) (Reads.list ho' hc' hd' (by simpa using hi'.reads)) (shaped_pd cs) (shaped_pd ds) hu (by simp only [noMix]; exact noMix_pd cs ds) (by simp only [PySem.Spec.same]; rw [same_pd]; exact h)
theorem cells_at (lp ml p : Nat) (h : p < lp + ml + 7) : (cellsP lp ml)[p]? = some (if lp ≤ p ∧ p < lp + ml then some ((p : Int) - lp + 1) else none) := by
  unfold cellsP
  by_cases h1 : p < lp
  · rw [List.getElem?_append_left (by simp; omega), List.getElem?_append_left (by simp; omega), if_neg (by omega)]
    rw [List.getElem?_replicate]; simp [h1]
  by_cases h2 : p < lp + ml
  · rw [List.getElem?_append_left (by simp; omega), List.getElem?_append_right (by simp; omega), if_pos (by omega)]
    simp only [List.length_replicate, List.getElem?_map]
    rw [List.getElem?_range' (by omega)]
    simp; omega
  · rw [List.getElem?_append_right (by simp; omega), if_neg (by omega), List.getElem?_replicate, if_pos (by simp only [List.length_append, List.length_replicate, List.length_map, List.length_range']; omega)]
theorem row_at (lp ml i j : Nat) (hi : i < nRows lp ml) (hj : j < 7) : (rowP lp ml i)[j]? = some (if lp ≤ 7 * i + j ∧ 7 * i + j < lp + ml then some (((7 * i + j : Nat) : Int) - lp + 1) else none) := by
  unfold rowP; unfold nRows at hi
  rw [List.getElem?_take_of_lt hj, List.getElem?_drop, cells_at _ _ _ (by omega)]
theorem row_len (lp ml i : Nat) (hi : i < nRows lp ml) : (rowP lp ml i).length = 7 := by
  unfold rowP; unfold nRows at hi
  simp [cellsP]; omega
theorem row_ne (lp ml i : Nat) (hlp : lp < 7) (hml : 1 ≤ ml) (hi : i < nRows lp ml) : rowP lp ml i ≠ List.replicate 7 none := by
  intro e
  have hi' := hi
  unfold nRows at hi'
  by_cases h0 : i = 0
  · subst h0
    have := row_at lp ml 0 lp hi hlp
    rw [e, if_pos (by omega), List.getElem?_replicate, if_pos hlp] at this
    simp at this
  · have := row_at lp ml i 0 hi (by omega)
    rw [e, if_pos (by omega)] at this
    simp at this
def upTo (k : Nat) : List Int := (List.range' 0 k).map fun (i : Nat) => 1 + (i : Int)
theorem upTo_succ (k : Nat) : upTo (k + 1) = upTo k ++ [1 + (k : Int)] := by
  unfold upTo; rw [List.range'_concat]; simp
def JDays (lp ml p : Nat) (ys : List Value) : Prop := IntsAre ys (upTo (min (p - lp) ml)) ∧ p ≤ 1000
theorem JDays.yes {lp ml p : Nat} {ys : List Value} {n : Int} {t : Tok} (h : JDays lp ml p ys) (hp : lp ≤ p ∧ p < lp + ml) (hn : n = (p : Int) - lp + 1) (hb : p < 1000) : JDays lp ml (p + 1) (ys ++ [.int n t]) := by
  refine ⟨?_, by omega⟩
  have e : min (p + 1 - lp) ml = min (p - lp) ml + 1 := by omega
  rw [e, upTo_succ]
  refine h.1.append ?_
  have e2 : 1 + ((min (p - lp) ml : Nat) : Int) = n := by omega
  rw [e2]
  exact .cons n t .nil
theorem JDays.no {lp ml p : Nat} {ys : List Value} (h : JDays lp ml p ys) (hp : ¬ (lp ≤ p ∧ p < lp + ml)) (hb : p < 1000) : JDays lp ml (p + 1) ys := by
  refine ⟨?_, by omega⟩
  have e : min (p + 1 - lp) ml = min (p - lp) ml := by omega
  rw [e]; exact h.1
theorem IntsAre.len {vs : List Value} {ns : List Int} (h : IntsAre vs ns) : vs.length = ns.length := by
  have := IntsAre.sizeZ h
  simp only [List.size_toArray] at this
  omega
theorem JDays.len {lp ml p : Nat} {ys : List Value} (h : JDays lp ml p ys) : ys.length ≤ 100000 := by
  rw [IntsAre.len h.1]; simp only [upTo, List.length_map, List.length_range']; have := h.2; omega
def JCol (p q : Nat) (col : Int) (ys : List Value) : Prop := (q ≤ p → ys = []) ∧ (p < q → IntsAre ys [col])
theorem JCol.len {p q : Nat} {col : Int} {ys : List Value} (h : JCol p q col ys) : ys.length ≤ 100000 := by
  by_cases e : q ≤ p
  · rw [h.1 e]; simp
  · rw [IntsAre.len (h.2 (by omega))]; simp
theorem JCol.yes {p q : Nat} {col c : Int} {t : Tok} {ys : List Value} (h : JCol p q col ys) (e : q = p) (ec : c = col) : JCol p (q + 1) col (ys ++ [.int c t]) := by
  subst ec
  rw [h.1 (by omega)]
  exact ⟨fun h => by omega, fun _ => .cons _ _ .nil⟩
theorem JCol.no {p q : Nat} {col : Int} {ys : List Value} (h : JCol p q col ys) (e : q ≠ p) : JCol p (q + 1) col ys :=
  ⟨fun h' => h.1 (by omega), fun h' => h.2 (by omega)⟩
def colNums (lp ml col : Nat) (a : Int) (i : Nat) : List Int := (List.range i).filterMap fun j => if lp ≤ 7 * j + col ∧ 7 * j + col < lp + ml then some (a + (((7 * j + col : Nat) : Int) - lp + 1)) else none
theorem colNums_yes {lp ml col i : Nat} {a n : Int} {t : Tok} {ys : List Value} (h : IntsAre ys (colNums lp ml col a i)) (hp : lp ≤ 7 * i + col ∧ 7 * i + col < lp + ml) (hn : n = a + (((7 * i + col : Nat) : Int) - lp + 1)) : IntsAre (ys ++ [.int n t]) (colNums lp ml col a (i + 1)) := by
  unfold colNums at h ⊢
  rw [List.range_succ, List.filterMap_append]
  refine h.append ?_
  simp only [List.filterMap_cons, List.filterMap_nil, if_pos hp]
  rw [hn]
  exact .cons _ _ .nil
theorem colNums_no {lp ml col i : Nat} {a : Int} {ys : List Value} (h : IntsAre ys (colNums lp ml col a i)) (hp : ¬ (lp ≤ 7 * i + col ∧ 7 * i + col < lp + ml)) : IntsAre ys (colNums lp ml col a (i + 1)) := by
  unfold colNums at h ⊢
  rw [List.range_succ, List.filterMap_append]
  simpa only [List.filterMap_cons, List.filterMap_nil, if_neg hp, List.append_nil] using h
theorem cell_cases {lp ml i j : Nat} {row : List Value} {u : Value} (hca : CA row (rowP lp ml i)) (hi : i < nRows lp ml) (hu : row[j]? = some u) :
    j < 7 ∧ ((∃ n t, u = Value.int n t ∧ n = ((7 * i + j : Nat) : Int) - lp + 1 ∧ lp ≤ 7 * i + j ∧ 7 * i + j < lp + ml) ∨ (u = .none ∧ ¬ (lp ≤ 7 * i + j ∧ 7 * i + j < lp + ml))) := by
  have hj : j < 7 := by
    have h1 := hca.length
    rw [row_len _ _ _ hi] at h1
    obtain ⟨h2, _⟩ := List.getElem?_eq_some_iff.mp hu
    omega
  refine ⟨hj, ?_⟩
  obtain ⟨v, hv, hc⟩ := hca.get j _ (row_at lp ml i j hi hj)
  rw [hu] at hv
  cases hv
  by_cases h : lp ≤ 7 * i + j ∧ 7 * i + j < lp + ml
  · rw [if_pos h] at hc
    cases hc with
    | ii n t _ => exact .inl ⟨_, t, rfl, rfl, h⟩
  · rw [if_neg h] at hc
    cases hc with
    | nn _ => exact .inr ⟨rfl, h⟩
theorem row_cell {lp ml i : Nat} {row : List Value} (j : Nat) (hca : CA row (rowP lp ml i)) (hi : i < nRows lp ml) (hj : j < 7) : ∃ u, row[j]? = some u ∧
    ((∃ n t, u = Value.int n t ∧ n = ((7 * i + j : Nat) : Int) - lp + 1 ∧ lp ≤ 7 * i + j ∧ 7 * i + j < lp + ml) ∨ (u = .none ∧ ¬ (lp ≤ 7 * i + j ∧ 7 * i + j < lp + ml))) := by
  obtain ⟨v, hv, hc⟩ := hca.get j _ (row_at lp ml i j hi hj)
  exact ⟨v, hv, (cell_cases hca hi hv).2⟩
theorem rows_get {rs : List (Addr × List Value)} {i : Nat} {v : Value} (h : (rs.map fun p => Value.ref p.1).toArray[i]? = some v) : ∃ r, rs[i]? = some r ∧ v = .ref r.1 ∧ r ∈ rs := by
  rw [List.getElem?_toArray, List.getElem?_map] at h
  cases e : rs[i]? with
  | none => rw [e] at h; cases h
  | some r => rw [e] at h; simp at h; exact ⟨r, rfl, h.symm, List.mem_of_getElem? e⟩
theorem lp_fact (n d a : Int) (lp : Nat) (ha : a = n - (d - 1)) (h : (Int.fmod (Int.fmod a 7 + 1) 7).toNat = lp) (hd : 1 ≤ d) : lp < 7 ∧ Int.fmod (Int.fmod n 7 + 1) 7 = (((lp + (d.toNat - 1)) % 7 : Nat) : Int) := by
  subst ha
  simp only [Int.fmod_eq_emod_of_nonneg _ (show (0 : Int) ≤ 7 by omega)] at h ⊢
  omega
theorem CA.ints : ∀ {vs : List Value} {ns : List Int}, CA vs (ns.map some) → IntsAre vs ns
  | _, [], h => by cases h; exact .nil
  | _, n :: ns, h => by
    rw [List.map_cons] at h
    cases h with
    | ii _ t h' => exact .cons n t (CA.ints h')
theorem CA.upTo {vs : List Value} {k : Nat} (h : CA vs ((List.range' 0 k).map fun (i : Nat) => some (1 + (i : Int)))) : IntsAre vs (upTo k) := by
  apply CA.ints
  unfold Mine.upTo
  rw [List.map_map]
  exact h
theorem JDays.init (lp ml : Nat) : JDays lp ml (7 * 0) [] := ⟨by rw [show min (7 * 0 - lp) ml = 0 by omega]; exact .nil, by omega⟩
theorem JDays.next {lp ml i : Nat} {row ys : List Value} (h : JDays lp ml (7 * i + row.length) ys) (hca : CA row (rowP lp ml i)) (hi : i < nRows lp ml) : JDays lp ml (7 * (i + 1)) ys := by
  have h1 := hca.length
  rw [row_len _ _ _ hi] at h1
  rw [h1] at h
  exact h
theorem JDays.fin {lp ml : Nat} {ys : List Value} (h : JDays lp ml (7 * nRows lp ml) ys) : IntsAre ys (upTo ml) := by
  have e : min (7 * nRows lp ml - lp) ml = ml := by unfold nRows; omega
  have := h.1
  rwa [e] at this
theorem news_swap {g h : Heap} {L : Addr} {a b : Led} (N : News g L h (a ++ b)) : News g L h (b ++ a) := fun p hp => N p (by
  rcases List.mem_append.mp hp with h | h
  · exact List.mem_append_right _ h
  · exact List.mem_append_left _ h)
theorem news_add {g h : Heap} {L : Addr} {p : Addr × Obj} {nw : Led} (N : News g L h nw) (hm : p ∈ nw) : News g L h (p :: nw) := fun q hq => by
  rcases List.mem_cons.mp hq with rfl | hq
  · exact N _ hm
  · exact N _ hq
def LenMark : Prop := True
theorem lenW {prog : Program} {w : World} {A : Around} {E : Value → Shared → Prop} {s : Shared} {h₀ : Heap} {L : Addr} {l : Addr} {items : Array Value} {k n : Nat} {nw : Led} {Q : Value → Shared → Prop} (N : News h₀ L s.heap nw) (hm : (l, W.listOf items k) ∈ nw) (e : items.size = n) (hz : n ≤ 1000)
    (h : ∀ t tk, Q (.int (n : Int) t) { s with toks := tk }) : wpAny (model prog w) A (call (.builtin "len") [.ref l]) Q E s := by
  subst e
  exact len_list (News.isList N hm) (by omega) (h _ _)
theorem ne_same {prog : Program} {w : World} {A : Around} {E : Value → Shared → Prop} {s : Shared} {h₀ : Heap} {L a b : Addr} {vs us : List Value} {k l : Nat} {ns ms : List Int} {nw : Led} {Q : Value → Shared → Prop} (N : News h₀ L s.heap nw)
    (hm : (a, W.listOf vs.toArray k) ∈ nw) (hi : IntsAre vs ns) (hm' : (b, W.listOf us.toArray l) ∈ nw) (hi' : IntsAre us ms) (hu : A.units + 64 < cLine) (e : ns = ms)
    (h : Q (.bool false) s) : wpAny (model prog w) A (compareOp .NotEq (.ref a) (.ref b)) Q E s := by
  subst e
  refine ne_intsK (News.isList N hm) hi (News.isList N hm') hi' hu ?_
  rw [decide_eq_true rfl]
  exact h
theorem rep7 {i : Nat} {ys : List Value} {t : Tok} {n : Nat} (hn : n = 7) (h : IntsAre ys (List.replicate i (7 : Int))) : IntsAre (ys ++ [.int (n : Int) t]) (List.replicate (i + 1) (7 : Int)) := by
  subst hn
  rw [List.replicate_succ']
  exact h.append (.cons _ _ .nil)
theorem mul7 {prog : Program} {w : World} {A : Around} {E : Value → Shared → Prop} {s : Shared} {h₀ : Heap} {L : Addr} {m : Str → Option Value} {news : Led} {l : Addr} {c n : Nat} {t u : Tok} {Q : Value → Shared → Prop}
    (F : Fr h₀ L s.heap m) (N : News h₀ L s.heap news) (hm : (l, W.listOf #[.int 7 t] c) ∈ news) (h1 : n ≤ 1000)
    (h : ∀ D h' us, IntsAre us (List.replicate n (7 : Int)) → Fr h₀ L h' m → News h₀ L h' ((D, W.listOf us.toArray 0) :: news) → Q (.ref D) { s with heap := h' }) :
    wpAny (model prog w) A (binaryOp .Mult (.ref l) (.int (n : Int) u)) Q E s := by
  refine mul_list F N (N _ hm).1 (by omega) (by omega) (by show 1 * ((n : Int)).toNat ≤ 2 ^ 24; omega) fun h' F' N' => ?_
  rw [listMul_foldl_if] at N'
  have e : (List.replicate ((n : Int)).toNat (#[Value.int 7 t] : Array Value).toList).flatten = List.replicate n (Value.int 7 t) := by
    rw [Int.toNat_natCast]
    clear h1 h N'
    induction n with
    | zero => rfl
    | succ k ih => rw [List.replicate_succ, List.flatten_cons, ih]; rfl
  rw [e] at N'
  refine h _ h' _ ?_ F' N'
  clear N' e h h1
  induction n with
  | zero => exact .nil
  | succ k ih => exact .cons _ _ ih
def SubMark : Prop := True
def CallMark : Prop := True
theorem eq_rowsF {prog : Program} {w : World} {A : Around} {E : Value → Shared → Prop} {s : Shared} {h₀ : Heap} {L a b : Addr} {vs us : List Value} {k l : Nat} {cs ds : List (Option Int)} {nw : Led} {Q : Value → Shared → Prop} (N : News h₀ L s.heap nw)
    (hm : (a, W.listOf vs.toArray k) ∈ nw) (hi : CA vs cs) (hm' : (b, W.listOf us.toArray l) ∈ nw) (hi' : CA us ds) (hu : A.units + 64 < cLine) (hne : cs ≠ ds)
    (h : Q (.bool false) s) : wpAny (model prog w) A (compareOp .Eq (.ref a) (.ref b)) Q E s :=
  eq_rows (News.isList N hm) hi (News.isList N hm') hi' hu (by rw [decide_eq_false hne]; exact h)
theorem itemW {prog : Program} {w : World} {A : Around} {E : Value → Shared → Prop} {s : Shared} {h₀ : Heap} {L l : Addr} {row : List Value} {c : Nat} {nw : Led} {k : Int} {j : Nat} {tk : Tok} {u : Value} {value slice : PySem.Expr} {Q : Value → Shared → Prop} (N : News h₀ L s.heap nw)
    (hm : (l, W.listOf row.toArray c) ∈ nw) (hk : k = (j : Int)) (hj : j < 7) (hu : row[j]? = some u) (h : Q u s)
    (hs : subscripted slice false (.ref l) (.int k tk) = operate [.ref l, .int k tk] (getItem (.ref l) (.int k tk)) := by with_unfolding_all rfl) (hg : ∀ r, letTemporaryGo value (.ref l) r = pure () := by intro _; with_unfolding_all rfl) :
    wpAny (model prog w) A (subscriptTail value slice (.ref l) (.int k tk)) Q E s := by
  subst hk
  exact item_list (News.isList N hm) (by omega) (by omega) (by simpa using hu) h hs hg
theorem ne_tup3 {prog : Program} {w : World} {A : Around} {E : Value → Shared → Prop} {s : Shared} {h₀ : Heap} {L a b : Addr} {k l : Nat} {x1 x2 x3 y1 y2 y3 : Int} {t1 t2 t3 u1 u2 u3 : Tok} {nw : Led} {Q : Value → Shared → Prop} (N : News h₀ L s.heap nw)
    (hm : (a, tup3 (.int x1 t1) (.int x2 t2) (.int x3 t3) k) ∈ nw) (hm' : (b, tup3 (.int y1 u1) (.int y2 u2) (.int y3 u3) l) ∈ nw) (hu : A.units + 64 < cLine) (e1 : x1 = y1) (e2 : x2 = y2) (e3 : x3 = y3)
    (h : Q (.bool false) s) : wpAny (model prog w) A (compareOp .NotEq (.ref a) (.ref b)) Q E s := by
  subst e1; subst e2; subst e3
  have r : ∀ (p q r : Tok), ReadsAll s.heap [.int x1 p, .int x2 q, .int x3 r] [.int x1, .int x2, .int x3] [] := fun p q r => by
    have := ReadsAll.cons (Reads.int (h := s.heap) x1 p) (ReadsAll.cons (Reads.int x2 q) (ReadsAll.cons (Reads.int x3 r) .nil))
    simpa using this
  have sh : shaped (.tuple [.int x1, .int x2, .int x3]) = true := by
    simp [shaped, PyData.canLay0, PyData.canLayAll0, PyData.depth, PyData.depthAll]
  refine ne_dataH_same (Reads.tuple (N _ hm).1 rfl rfl (r t1 t2 t3)) (Reads.tuple (N _ hm').1 rfl rfl (r u1 u2 u3)) sh sh hu (by simp [noMix, noMixAll]) ?_
  have e : PySem.Spec.same (.tuple [.int x1, .int x2, .int x3]) (.tuple [.int x1, .int x2, .int x3]) = true := by simp [PySem.Spec.same, PySem.Spec.sameAll]
  rw [e]
  exact h
end Mine
open PySem PySem.W PyProof.Rows
set_option Elab.async false
set_option maxRecDepth 100000
set_option maxHeartbeats 40000000
namespace Mine
local macro_rules | `(tactic| walk_at "eval Call") => `(tactic| (k_here; k_dflt (refine Call_ ?_)))
local macro_rules | `(tactic| walk_at "ite") => `(tactic| (k_here; k_openite; first
  | (refine ite_pos (by (simp only [beq_iff_eq, bne_iff_ne, ne_eq, decide_eq_true_eq]; first | assumption | omega)) ?_; walk_say "P+")
  | (refine ite_neg (by (simp only [beq_iff_eq, bne_iff_ne, ne_eq, decide_eq_true_eq]; first | assumption | omega)) ?_; walk_say "P-")))
local macro_rules | `(tactic| walk_at "eval IfExp") => `(tactic| (k_here; refine stopHere ?_))
local macro_rules | `(tactic| walk_at "exec If BoolOp") => `(tactic| (k_here; refine stopHere ?_))
local macro_rules | `(tactic| walk_at "pyIter ref") => `(tactic| (k_here; refine stopHere ?_))
local macro_rules | `(tactic| walk_at "exec For Name Call cons nil") => `(tactic| (k_here; refine stopHere ?_))
local macro_rules | `(tactic| walk_at "exec Assign cons ListComp") => `(tactic| (k_here; refine stopHere ?_))
local macro_rules | `(tactic| walk_at "eval ListComp") => `(tactic| (k_here; refine stopHere ?_))
local macro_rules | `(tactic| walk_at "call builtin:len") => `(tactic| (k_here; (rename LenMark => hLenMark); refine stopHere ?_))
local macro_rules | `(tactic| walk_at "binaryOp Mult ref int") => `(tactic| (k_here; (rename LenMark => hLenMark); refine stopHere ?_))
local macro_rules | `(tactic| walk_at "compareOp Eq ref ref") => `(tactic| (k_here; (rename LenMark => hLenMark); refine stopHere ?_))
local macro_rules | `(tactic| walk_at "subscriptTail") => `(tactic| (k_here; (rename SubMark => hSubMark); refine stopHere ?_))
local macro_rules | `(tactic| walk_at "call ref") => `(tactic| (k_here; (rename CallMark => hCallMark); refine stopHere ?_))
local macro_rules | `(tactic| walk_at "call type:list") => `(tactic| (k_here; ((with_reducible show wpAny _ _ (call (Value.type _) [Value.ref _]) _ _ _); (rename IsRange _ _ _ _ _ _ _ _ => rgX); (with_unfolding_all refine' listRange (n := _) ?k0 ?k1 ?k2 ?k3 ?k4 ?k5 ?k6 ?_; (case k0 => with_unfolding_all rfl); (case k1 => k_asm); (case k2 => k_asm); (case k3 => assumption); (case k4 => exact small_one (by omega) (by omega) (by omega) (by omega)); (case k5 => exact rangeSize_nat _ _); (case k6 => omega)); intro D' c' vs' h' tk' F' N' hCA l1; (try k_lt l1); (try k_sweep))))
local macro_rules | `(tactic| walk_at "compareOp NotEq ref ref") => `(tactic| (k_here; refine stopHere ?_))
theorem wb_prev (n : Int) : wbP (Int.fmod n 7) (n + -1 * 1) = n - 7 := by
  unfold wbP; simp only [Int.fmod_eq_emod_of_nonneg _ (show (0 : Int) ≤ 7 by omega)]; omega
theorem wb_next (n : Int) : wbP (Int.fmod n 7) (n + 1 * 7) = n + 7 := by
  unfold wbP; simp only [Int.fmod_eq_emod_of_nonneg _ (show (0 : Int) ≤ 7 by omega)]; omega
theorem wb_near (n y : Int) (h0 : -3 ≤ y) (h1 : y ≤ 3) : wbP (Int.fmod n 7) (n + y + 1 * 3) = n := by
  unfold wbP; simp only [Int.fmod_eq_emod_of_nonneg _ (show (0 : Int) ≤ 7 by omega)]; omega
theorem law_holds : PySem.Challenge.rw_bh0014_01.Holds := hd (by
  k_go0
  (all_goals try k_fold)
  k_steps
  unfold Stop
  rename Fr _ _ _ _ => F0
  rename News _ _ _ _ => N0
  refine join_int 0 3199999 F0 N0 (IfExp_ ?_) (fun x t h' tk' hx0 hx1 F1 N1 => ?_)
  · k_steps
    all_goals (refine JInt.intro (by k_asm) (by k_asm) (fun _ h => h) ?_ ?_)
    all_goals first | omega | l_fact
  clear F0 N0
  k_steps
  unfold Stop
  refine wpAny_For ?_
  k_steps
  unfold Stop
  rename Fr _ _ _ _ => F2
  rename News _ _ _ _ => N2
  rename IsRange _ _ _ _ _ _ _ _ => rg2
  rename Top _ _ _ _ _ _ => Tp
  rename Frag.In _ _ => Xp
  have c_law_date := wrp C_law_date Tp Xp
  dsimp only [CL, CT, CR, CT3] at c_law_date
  have c_law_leaf := wrp C_law_leaf Tp Xp
  dsimp only [CL, CT, CR, CT3] at c_law_leaf
  have c_law_number := wrp C_law_number Tp Xp
  dsimp only [CL, CT, CR, CT3] at c_law_number
  have c_previous_weekday := wrp C_previous_weekday Tp Xp
  dsimp only [CL, CT, CR, CT3] at c_previous_weekday
  have c_next_weekday := wrp C_next_weekday Tp Xp
  dsimp only [CL, CT, CR, CT3] at c_next_weekday
  have c_nearest_weekday := wrp C_nearest_weekday Tp Xp
  dsimp only [CL, CT, CR, CT3] at c_nearest_weekday
  have c_from_jd_iso := wrp C_from_jd_iso Tp Xp
  dsimp only [CL, CT, CR, CT3] at c_from_jd_iso
  k_with "call ref" => (k_dflt (refine' (CbC.out c_law_date) _ _ _ _ _ _ _ _ _ _ _ _ _ _ _ _ _ _ _ _ _ _ ?k1 ?k2 ?k3 ?k4 ?k5 ?kK ?kp ?kd ?ku ?_); (case k1 => k_asm); (case k2 => k_asm); (case k3 => k_asm); (case k4 => k_asm); (case k5 => k_asm); (case kK => first | exact rfl | assumption); (case kp => (exact ⟨by omega, by omega, by omega, by omega⟩)); (case kd => ktr_room); (case ku => ktr_units); intro D9 t91 t92 t93 n9 h9 tk9 F9 N9 l9; (try simp only [AllLt, and_true] at l9); (try dsimp only); (try k_fold))
  k_with "call ref" => (k_dflt (refine' (CbC.out c_law_leaf) _ _ _ _ _ _ _ _ _ _ _ _ _ _ _ _ _ _ _ _ _ _ _ _ ?k1 ?k2 ?k3 ?k4 ?k5 ?kK ?kp ?kd ?ku ?_); (case k1 => k_asm); (case k2 => k_asm); (case k3 => k_asm); (case k4 => k_asm); (case k5 => k_asm); (case kK => first | exact rfl | assumption); (case kp => exact ⟨hk0, by omega, hf.1⟩); (case kd => ktr_room); (case ku => ktr_units); intro R9 made9 h9 tk9 F9 N9 hR9; (try dsimp only); (try k_fold))
  k_with "call ref" => (k_dflt (refine' (CbC.out c_law_number) _ _ _ _ _ _ _ _ _ _ _ _ _ _ _ _ _ _ _ _ _ _ _ _ _ _ ?k1 ?k2 ?k3 ?k4 ?k5 ?kK ?kp ?kd ?ku ?_); (case k1 => k_asm); (case k2 => k_asm); (case k3 => k_asm); (case k4 => k_asm); (case k5 => k_asm); (case kK => first | exact rfl | assumption); (case kp => exact hnum); (case kd => ktr_room); (case ku => ktr_units); intro t9 h9 tk9 F9 N9; (try dsimp only); (try k_fold))
  have TT := Tp
  refine for_law (Str.ofString "rows") (Str.ofString "days") (by with_unfolding_all rfl) rg2 F2 N2 (by k_asm) (by k_asm) (by k_asm) (by k_asm) (fun k ti u1 u2 p3 p4 p5 p6 w3 w4 w5 w6 h tk It oI E' hk0 hk7 e3 e4 e5 e6 F N hne => ?turn) (fun u1 u2 p3 p4 p5 p6 h tk F N => ?done)
  case done =>
    clear F2 N2 rg2
    k_steps
    unfold Stop
    rename Fr _ _ _ _ => F0
    rename News _ _ _ _ => N0
    refine join_int (-3) 3 F0 N0 (IfExp_ ?_) (fun y t h' tk' hy0 hy1 F1 N1 => ?_)
    · k_steps
      all_goals (refine JInt.intro (by k_asm) (by k_asm) (fun _ h => h) ?_ ?_)
      all_goals first | omega | l_fact
    have hCM : CallMark := trivial
    k_steps
    unfold Stop
    refine' (CbC.out c_previous_weekday) _ _ _ _ _ _ _ _ _ _ _ _ _ _ _ _ _ _ _ _ _ _ ?k1 ?k2 ?k3 ?k4 ?k5 ?kK ?kp ?kd ?ku ?_
    case k1 => k_asm
    case k2 => k_asm
    case k3 => k_asm
    case k4 => k_asm
    case k5 => k_asm
    case kK => first | exact rfl | assumption
    case kp => trivial
    case kd => ktr_room
    case ku => ktr_units
    intro t9 h9 tk9 F9 N9
    (try dsimp only)
    (try k_fold)
    k_steps
    unfold Stop
    refine' (CbC.out c_next_weekday) _ _ _ _ _ _ _ _ _ _ _ _ _ _ _ _ _ _ _ _ _ _ ?k1 ?k2 ?k3 ?k4 ?k5 ?kK ?kp ?kd ?ku ?_
    case k1 => k_asm
    case k2 => k_asm
    case k3 => k_asm
    case k4 => k_asm
    case k5 => k_asm
    case kK => first | exact rfl | assumption
    case kp => trivial
    case kd => ktr_room
    case ku => ktr_units
    intro t9 h9 tk9 F9 N9
    (try dsimp only)
    (try k_fold)
    k_steps
    unfold Stop
    refine' (CbC.out c_nearest_weekday) _ _ _ _ _ _ _ _ _ _ _ _ _ _ _ _ _ _ _ _ _ _ ?k1 ?k2 ?k3 ?k4 ?k5 ?kK ?kp ?kd ?ku ?_
    case k1 => k_asm
    case k2 => k_asm
    case k3 => k_asm
    case k4 => k_asm
    case k5 => k_asm
    case kK => first | exact rfl | assumption
    case kp => trivial
    case kd => ktr_room
    case ku => ktr_units
    intro t9 h9 tk9 F9 N9
    (try dsimp only)
    (try k_fold)
    k_steps
    unfold Stop
    refine ne_tup3 (by k_asm) (by k_mem) (by k_mem) (by units_room) (wb_prev _) (wb_next _) (wb_near _ _ hy0 hy1) ?_
    k_steps
    unfold Stop
    refine' (CbC.out c_from_jd_iso) _ _ _ _ _ _ _ _ _ _ _ _ _ _ _ _ _ _ _ _ ?k1 ?k2 ?k3 ?k4 ?k5 ?kK ?kp ?kd ?ku ?_
    case k1 => k_asm
    case k2 => k_asm
    case k3 => k_asm
    case k4 => k_asm
    case k5 => k_asm
    case kK => first | exact rfl | assumption
    case kp => exact ⟨by omega, by omega⟩
    case kd => ktr_room
    case ku => ktr_units
    intro D9 x9 y9 t91 t92 t93 n9 h9 tk9 F9 N9 l9
    (try dsimp only)
    (try k_fold)
    k_steps
  case turn =>
    clear F2 N2 rg2
    have hf := facts k (2117600 + x) (by omega) (by omega)
    k_steps
    unfold Stop
    refine wpAny_If ?_
    refine' join_bool (k = 4 ∧ dM k (2117600 + x) = 1) ?kF ?kN ?_ (fun b h' tk' hb F4 N4 => ?_)
    case kF => k_asm
    case kN => k_asm
    · k_steps
      all_goals (refine JB.intro (by k_asm) (by k_asm) (fun _ h => h) ?_)
      all_goals first | exact iff_of_true rfl ⟨by omega, by omega⟩ | exact iff_of_false Bool.false_ne_true (by omega)
    by_cases h4 : k = 4 ∧ dM k (2117600 + x) = 1
    · have hb' := hb.2 h4
      subst hb'
      k_steps
      dsimp only
      rename Fr _ _ _ _ => F8
      rename News _ _ _ _ => N8
      rename _ = Data.cell (some (Value.int k _)) => q3
      rename _ = Data.cell (some (Value.int (dY k (2117600 + x)) _)) => q4
      rename _ = Data.cell (some (Value.int (dM k (2117600 + x)) _)) => q5
      rename _ = Data.cell (some (Value.int (dD k (2117600 + x)) _)) => q6
      exact turn_ok (.inr rfl) F8 N8 (by intro p hp; kcj_m) q3 q4 q5 q6 hne (by intro z h1 h2; simp only [if_neg h1, if_neg h2])
    · have hb' : b = false := by cases b; rfl; exact absurd (hb.1 rfl) h4
      subst hb'
      k_steps
      unfold Stop
      obtain ⟨cR, rs, hRm, hrs, hrl, hca⟩ := hR9
      rename News _ _ _ _ => N5
      replace N5 := news_add (news_swap N5) (List.mem_append_right _ hRm)
      simp only [List.cons_append, List.nil_append] at N5
      have hDR := dimK_range k (dY k (2117600 + x)) (dM k (2117600 + x))
      have hLin := numK_lin k (dY k (2117600 + x)) (dM k (2117600 + x)) (dD k (2117600 + x))
      have hEnds := ends k (2117600 + x) (by omega) (by omega) h4
      obtain ⟨hLeg, hdd, hNum⟩ := hf
      obtain ⟨hd1, hd2⟩ := hdd h4
      generalize hlp : (Int.fmod (Int.fmod (numK k (dY k (2117600 + x)) (dM k (2117600 + x)) 1) 7 + 1) 7).toNat = lp at hrl hca
      generalize hml : (dimK k (dY k (2117600 + x)) (dM k (2117600 + x))).toNat = ml at hrl hca
      obtain ⟨hlp7, hcol⟩ := lp_fact (2117600 + x) (dD k (2117600 + x)) _ lp (by omega) hlp hd1
      have hnR : nRows lp ml ≤ 7 := by unfold nRows; omega
      have hrs7 : rs.length ≤ 7 := by omega
      refine Assign_ListComp_N (by k_asm) rfl (by with_unfolding_all rfl) (by with_unfolding_all rfl) (by decide) (by rfl) (by decide) (by rfl) (by rfl) (by decide) (by rfl) (by rfl) ?_
      k_steps
      rename Fr _ _ _ _ => F5
      rename News _ _ _ _ => N5
      refine ⟨_, _, _, _, fun i ys => JDays lp ml (7 * i) ys, rfl, by with_unfolding_all rfl, F5, N5, .head _, JDays.init _ _, ?_, ?_⟩
      · rintro _ ⟨g9, rfl⟩ i v ys oI I C oC D m₂ h tk E' hi hv hJ hN hx F N off ne
        obtain ⟨r, hr, rfl, hrm⟩ := rows_get hv
        have hi' : i < nRows lp ml := by rw [← hrl]; simpa using hi
        k_steps
        unfold Stop
        refine inner_list (row := r.2) (fun j ys' => JDays lp ml (7 * i + j) ys') (by with_unfolding_all rfl) (by k_asm) (by k_asm) (by first | exact hrs r hrm | (repeat (first | exact hrs r hrm | apply List.mem_cons_of_mem))) hJ (fun _ _ h => h.len) (fun ys' h => h.next (hca i r hr) hi') (fun j u ys' oC' m₃ I₁ oI₁ h tk E' hu hJ' hN' hx' hz' F' N' => ?_)
        have hcc := cell_cases (hca i r hr) hi' hu
        have hj7 := hcc.1
        rcases hcc.2 with ⟨n, t, rfl, hn, hp⟩ | ⟨rfl, hp⟩
        · k_steps
          exact ⟨_, _, rfl, by k_asm, by k_asm, hJ'.yes hp hn (by omega)⟩
        · k_steps
          exact ⟨_, _, rfl, by k_asm, by k_asm, hJ'.no hp (by omega)⟩
      · intro ys hJ D h tk F N off
        have hI := JDays.fin (by simpa [hrl] using hJ)
        have hIl := IntsAre.len hI
        rw [show (upTo ml).length = ml by simp [upTo]] at hIl
        have hLM : LenMark := trivial
        k_steps
        unfold Stop
        refine wpAny_If ?_
        k_steps
        unfold Stop
        refine lenW (by k_asm) (.head _) (by simpa using hIl) (by omega) (fun t tk => ?_)
        k_steps
        unfold Stop
        rename CA _ _ => hCA9
        refine ne_same (by k_asm) (.tail _ (.head _)) hI (.head _) (CA.upTo hCA9) (by units_room) (by congr 1; omega) ?_
        clear hCA9
        k_steps
        unfold Stop
        refine LCg.ListComp_U (F₀ := by k_asm) (by with_unfolding_all rfl) (by decide) (by rfl) (by decide) (by rfl) ?_
        k_steps
        refine LCg.CompSrc.ledger (by with_unfolding_all rfl) (by k_asm) (by k_asm) (by k_mem) (by rw [sizeLine_eq]; simp; omega) (fun g => CompRestU_ind (fun i ys => IntsAre ys (List.replicate i (7 : Int))) _ (.inr ⟨_, by k_mem, rfl, _, rfl⟩) ?_ ?_ _ 0 [] (Nat.zero_add _) .nil)
        · intro i ys v I oI C oC D m₂ h tk E' hi hJ hv hN hx F N off ne
          obtain ⟨r, hr, rfl, hrm⟩ := rows_get hv
          have hi' : i < nRows lp ml := by rw [← hrl]; simpa using hi
          k_steps
          unfold Stop
          refine lenW (n := 7) (by k_asm) (by repeat (first | exact hrs r hrm | apply List.mem_cons_of_mem)) (by have := (hca i r hr).length; rw [row_len _ _ _ hi'] at this; simpa using this) (by omega) (fun t tk => ?_)
          k_steps
          exact ⟨_, _, rfl, by k_asm, by k_asm, rep7 rfl hJ⟩
        · intro ys3 hJ3 D h tk F N off
          k_steps
          unfold Stop
          refine lenW (n := nRows lp ml) (by k_asm) (by k_mem) (by simpa using hrl) (by omega) (fun t tk => ?_)
          k_steps
          unfold Stop
          refine' mul7 ?k1 ?k2 ?k3 ?k4 (fun D4 h4 us hI7 F4 N4 => ?_)
          case k1 => k_asm
          case k2 => k_asm
          case k3 => k_mem
          case k4 => omega
          k_steps
          unfold Stop
          refine ne_same (by k_asm) (by k_mem) hJ3 (by k_mem) hI7 (by units_room) (by simp [hrl]) ?_
          k_steps
          unfold Stop
          refine LCt.ListComp_T (F₀ := by k_asm) (by with_unfolding_all rfl) (by decide) (by rfl) (by decide) (by rfl) ?_
          k_steps
          refine LCt.CompSrcT.ledger (by with_unfolding_all rfl) (by k_asm) (by k_asm) (by k_mem) (by rw [sizeLine_eq]; simp; omega) (fun g => CompRestT_ind (fun i ys => IntsAre ys []) _ (.inr ⟨_, by k_mem, rfl, _, rfl⟩) ?_ ?_ _ 0 [] (Nat.zero_add _) .nil)
          · intro i ys v I oI C oC D m₂ h tk E' hi hJ hv hN hx F N off ne
            obtain ⟨r, hr, rfl, hrm⟩ := rows_get hv
            have hi' : i < nRows lp ml := by rw [← hrl]; simpa using hi
            k_steps
            unfold Stop
            refine' mulNone ?k1 ?k2 ?k3 ?k4 ?k5 (fun D4 h4 F4 N4 l4 => ?_)
            case k1 => k_asm
            case k2 => k_asm
            case k3 => k_mem
            case k4 => omega
            case k5 => omega
            k_steps
            unfold Stop
            refine eq_rowsF (by k_asm) (by repeat (first | exact hrs r hrm | apply List.mem_cons_of_mem)) (hca i r hr) (by k_mem) (CA.replicate _) (by units_room) (row_ne lp ml i hlp7 (by omega) hi') ?_
            k_steps
            exact ⟨_, _, rfl, by k_asm, fun p hp => N4 p (.tail _ (.tail _ hp)), hJ⟩
          · intro ys4 hJ4 D h tk F N off
            k_steps
            unfold Stop
            refine ne_same (us := []) (by k_asm) (by k_mem) hJ4 (by k_mem) .nil (by units_room) rfl ?_
            k_steps
            unfold Stop
            refine ListComp_N (by k_asm) (by with_unfolding_all rfl) (by decide) (by rfl) (by decide) (by rfl) (by rfl) (by decide) ?_
            k_steps
            rename Fr _ _ _ _ => F5
            rename News _ _ _ _ => N5
            generalize hp5 : lp + ((dD k (2117600 + x)).toNat - 1) = p5 at hcol
            refine ⟨_, _, _, _, fun i ys => JCol p5 (7 * i) ((p5 % 7 : Nat) : Int) ys, rfl, by with_unfolding_all rfl, F5, N5, by k_mem, ⟨fun _ => rfl, fun h => by omega⟩, ?_, ?_⟩
            · rintro _ ⟨g9, rfl⟩ i v ys oI I C oC D m₂ h tk E' hi hv hJ hN hx F N off ne
              obtain ⟨r, hr, rfl, hrm⟩ := rows_get hv
              have hi' : i < nRows lp ml := by rw [← hrl]; simpa using hi
              k_steps
              unfold Stop
              rename IsRange _ _ _ _ _ _ _ _ => rg5
              refine inner_range 7 (fun j ys' => JCol p5 (7 * i + j) ((p5 % 7 : Nat) : Int) ys') (by with_unfolding_all rfl) rg5 rfl (by omega) (by k_asm) (by k_asm) hJ (fun _ _ h => h.len) (fun ys' h => h) (fun j t ys' oC' m₃ I₁ oI₁ h tk E' hj7 hJ' hN' hx' hz' F' N' => ?_)
              obtain ⟨u, hu, hcc⟩ := row_cell j (hca i r hr) hi' hj7
              have hSM : SubMark := trivial
              k_steps
              unfold Stop
              refine itemW (by k_asm) (by repeat (first | exact hrs r hrm | apply List.mem_cons_of_mem)) rfl hj7 hu ?_
              rename SubMark => hSM2
              clear hSM2
              rcases hcc with ⟨n, t, rfl, hn, hp⟩ | ⟨rfl, hp⟩
              · k_steps
                all_goals first | exact ⟨_, _, rfl, by k_asm, by k_asm, hJ'.yes (by omega) (by omega)⟩ | exact ⟨_, _, rfl, by k_asm, by k_asm, hJ'.no (by omega)⟩
              · k_steps
                first | exact ⟨_, _, rfl, by k_asm, by k_asm, hJ'.no (by omega)⟩
            · intro ys5 hJ5 D h tk F N off
              replace hJ5 := hJ5.2 (by simp only [List.size_toArray, List.length_map, hrl]; unfold nRows; omega)
              k_steps
              unfold Stop
              refine ne_same (us := [Value.int _ _]) (by k_asm) (by k_mem) hJ5 (by k_mem) (.cons _ _ .nil) (by units_room) (by rw [hcol]) ?_
              k_steps
              unfold Stop
              refine LCt.ListComp_T (F₀ := by k_asm) (by with_unfolding_all rfl) (by decide) (by rfl) (by decide) (by rfl) ?_
              k_steps
              refine LCt.CompSrcT.ledger (by with_unfolding_all rfl) (by k_asm) (by k_asm) (by k_mem) (by rw [sizeLine_eq]; simp; omega) (fun g => CompRestT_ind (fun i ys => IntsAre ys (colNums lp ml (p5 % 7) (2117600 + x - dD k (2117600 + x)) i)) _ (.inr ⟨_, by k_mem, rfl, _, rfl⟩) ?_ ?_ _ 0 [] (Nat.zero_add _) .nil)
              · intro i ys v I oI C oC D m₂ h tk E' hi hJ hv hN hx F N off ne
                obtain ⟨r, hr, rfl, hrm⟩ := rows_get hv
                have hi' : i < nRows lp ml := by rw [← hrl]; simpa using hi
                obtain ⟨u, hu, hcc⟩ := row_cell (p5 % 7) (hca i r hr) hi' (by omega)
                have hSM : SubMark := trivial
                k_steps
                unfold Stop
                refine itemW (by k_asm) (by repeat (first | exact hrs r hrm | apply List.mem_cons_of_mem)) hcol (by omega) hu ?_
                rcases hcc with ⟨n, t, rfl, hn, hp⟩ | ⟨rfl, hp⟩
                · have hnum : 0 ≤ k ∧ k ≤ 6 ∧ LegM k (dY k (2117600 + x)) (dM k (2117600 + x)) ∧ 1 ≤ n ∧ n ≤ dimK k (dY k (2117600 + x)) (dM k (2117600 + x)) := ⟨hk0, by omega, hLeg, by omega, by omega⟩
                  k_steps
                  unfold Stop
                  refine itemW (by k_asm) (by repeat (first | exact hrs r hrm | apply List.mem_cons_of_mem)) hcol (by omega) hu ?_
                  rename SubMark => hSM2
                  clear hSM2
                  have hCM : CallMark := trivial
                  k_steps
                  unfold Stop
                  rename CallMark => hCM2
                  clear hCM2
                  refine' (CbC.out c_law_number) _ _ _ _ _ _ _ _ _ _ _ _ _ _ _ _ _ _ _ _ _ _ _ _ _ _ ?k1 ?k2 ?k3 ?k4 ?k5 ?kK ?kp ?kd ?ku ?_
                  case k1 => k_asm
                  case k2 => k_asm
                  case k3 => k_asm
                  case k4 => k_asm
                  case k5 => k_asm
                  case kK => first | exact rfl | assumption
                  case kp => exact hnum
                  case kd => ktr_room
                  case ku => ktr_units
                  intro t9 h9 tk9 F9 N9
                  (try dsimp only)
                  (try k_fold)
                  k_steps
                  have hLin2 := numK_lin k (dY k (2117600 + x)) (dM k (2117600 + x)) n
                  first | exact ⟨_, _, rfl, by k_asm, by k_asm, colNums_yes hJ hp (by omega)⟩
                · k_steps
                  first | exact ⟨_, _, rfl, by k_asm, by k_asm, colNums_no hJ hp⟩
              · intro ys6 hJ6 D h tk F N off
                k_steps
                unfold Stop
                refine LCt.ListComp_T (F₀ := by k_asm) (by with_unfolding_all rfl) (by decide) (by rfl) (by decide) (by rfl) ?_
                k_steps
                refine LCt.CompSrcT.ledger (by with_unfolding_all rfl) (by k_asm) (by k_asm) (by k_mem) (by rw [sizeLine_eq]; simp; omega) (fun g => CompRestT_ind (fun i ys => IntsAre ys (colNums lp ml (p5 % 7) (2117600 + x - dD k (2117600 + x)) i)) _ (.inr ⟨_, by k_mem, rfl, _, rfl⟩) ?_ ?_ _ 0 [] (Nat.zero_add _) .nil)
                · intro i ys v I oI C oC D m₂ h tk E' hi hJ hv hN hx F N off ne
                  obtain ⟨r, hr, rfl, hrm⟩ := rows_get hv
                  have hi' : i < nRows lp ml := by rw [← hrl]; simpa using hi
                  obtain ⟨u, hu, hcc⟩ := row_cell (p5 % 7) (hca i r hr) hi' (by omega)
                  have hSM : SubMark := trivial
                  k_steps
                  unfold Stop
                  refine itemW (by k_asm) (by repeat (first | exact hrs r hrm | apply List.mem_cons_of_mem)) hcol (by omega) hu ?_
                  rcases hcc with ⟨n, t, rfl, hn, hp⟩ | ⟨rfl, hp⟩
                  · skip
                    k_steps
                    unfold Stop
                    refine itemW (by k_asm) (by repeat (first | exact hrs r hrm | apply List.mem_cons_of_mem)) hcol (by omega) hu ?_
                    k_steps
                    skip
                    first | exact ⟨_, _, rfl, by k_asm, by k_asm, colNums_yes hJ hp (by omega)⟩
                  · k_steps
                    first | exact ⟨_, _, rfl, by k_asm, by k_asm, colNums_no hJ hp⟩
                · intro ys7 hJ7 D h tk F N off
                  k_steps
                  unfold Stop
                  refine ne_same (by k_asm) (by k_mem) hJ6 (by k_mem) hJ7 (by units_room) rfl ?_
                  have hml' : dimK k (dY k (2117600 + x)) (dM k (2117600 + x)) = (ml : Int) := by omega
                  rw [hml'] at hEnds
                  k_steps
                  unfold Stop
                  refine wpAny_If ?_
                  k_steps
                  unfold Stop
                  have hCM : CallMark := trivial
                  refine lenW (n := ml) (by k_asm) (by k_mem) (by simpa using hIl) (by omega) (fun t tk => ?_)
                  k_steps
                  unfold Stop
                  refine' (CbC.out c_law_date) _ _ _ _ _ _ _ _ _ _ _ _ _ _ _ _ _ _ _ _ _ _ ?k1 ?k2 ?k3 ?k4 ?k5 ?kK ?kp ?kd ?ku ?_
                  case k1 => k_asm
                  case k2 => k_asm
                  case k3 => k_asm
                  case k4 => k_asm
                  case k5 => k_asm
                  case kK => first | exact rfl | assumption
                  case kp => exact ⟨by omega, by omega, by omega, by omega⟩
                  case kd => ktr_room
                  case ku => ktr_units
                  intro D9 t91 t92 t93 n9 h9 tk9 F9 N9 l9
                  (try simp only [AllLt, and_true] at l9)
                  (try dsimp only)
                  (try k_fold)
                  k_steps
                  unfold Stop
                  refine lenW (n := ml) (by k_asm) (by k_mem) (by simpa using hIl) (by omega) (fun t tk => ?_)
                  k_steps
                  unfold Stop
                  refine' (CbC.out c_law_date) _ _ _ _ _ _ _ _ _ _ _ _ _ _ _ _ _ _ _ _ _ _ ?k1 ?k2 ?k3 ?k4 ?k5 ?kK ?kp ?kd ?ku ?_
                  case k1 => k_asm
                  case k2 => k_asm
                  case k3 => k_asm
                  case k4 => k_asm
                  case k5 => k_asm
                  case kK => first | exact rfl | assumption
                  case kp => exact ⟨by omega, by omega, by omega, by omega⟩
                  case kd => ktr_room
                  case ku => ktr_units
                  intro D9 t91 t92 t93 n9 h9 tk9 F9 N9 l9
                  (try simp only [AllLt, and_true] at l9)
                  (try dsimp only)
                  (try k_fold)
                  k_steps
                  unfold Stop
                  refine lenW (n := ml) (by k_asm) (by k_mem) (by simpa using hIl) (by omega) (fun t tk => ?_)
                  k_steps
                  dsimp only
                  rename Fr _ _ _ _ => F8
                  rename News _ _ _ _ => N8
                  rename _ = Data.cell (some (Value.int k _)) => q3
                  rename _ = Data.cell (some (Value.int (dY k (2117600 + x)) _)) => q4
                  rename _ = Data.cell (some (Value.int (dM k (2117600 + x)) _)) => q5
                  rename _ = Data.cell (some (Value.int (dD k (2117600 + x)) _)) => q6
                  exact turn_ok (.inl rfl) F8 N8 (by intro p hp; simp only [List.mem_cons, List.not_mem_nil, or_false] at hp ⊢; rcases hp with h | h | h | h | h | h | h <;> (repeat (first | exact h | exact Or.inl h | apply Or.inr))) q3 q4 q5 q6 hne (by intro z h1 h2; simp only [if_neg h1, if_neg h2]))
end Mine
set_option maxRecDepth 100000 in
set_option maxHeartbeats 8000000 in
theorem PySem.Challenge.cw_bh0014_01_holds : PySem.Challenge.rw_bh0014_01.Holds := by
  exact Mine.law_holds
