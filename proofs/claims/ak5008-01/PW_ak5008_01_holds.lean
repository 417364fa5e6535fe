import PyProof.Rows.All
import Wide.All
import OpenK.AllK
import Wide.FinOn
import PySem.Challenge.RW_ak5008_01
set_option Elab.async false

section -- Hd
open PySem PySem.W PyProof.Rows
namespace Mine
set_option maxRecDepth 100000 in
set_option maxHeartbeats 8000000 in
open_top hd for PySem.Challenge.rw_ak5008_01
end Mine
end

section -- DT
open PySem PySem.Calls PyProof.Rows
set_option maxRecDepth 100000
namespace Mine
open PySem.F

theorem mro_date : mroOf (.type "datetime.date") = pure [.type "datetime.date", .type "object"] := by rw [mroOf_type]; kernel_rfl
theorem lookup_date_new : typeLookup (.type "datetime.date") "__new__" = pure (some (.builtin "datetime.date.__new__")) := by rw [typeLookup_type, builtinLookup_eq_fast]; kernel_rfl
theorem slot_date_init : Slot "datetime.date" "__init__" "object.__init__" :=
  .of (owner := "object") (n := "__init__") (by rw [typeLookup_type, builtinLookup_eq_fast]; kernel_rfl) (by decide +kernel) (by decide +kernel) (by decide +kernel)
    (by first | exact .inl (by decide +kernel) | exact .inr (by decide +kernel)) (by rw [isSubtype_type]; kernel_rfl)
theorem sub_date_date : isSubtype (.type "datetime.date") (.type "datetime.date") = pure true := by rw [isSubtype_type]; kernel_rfl
theorem sub_date_datetime : isSubtype (.type "datetime.date") (.type "datetime.datetime") = pure false := by rw [isSubtype_type]; kernel_rfl
theorem called_date : TypeCalled "datetime.date" "datetime.date.__new__" "object.__init__" :=
  ⟨by decide +kernel, by decide +kernel, ⟨_, _, mro_date⟩, madeBy_type mro_date lookup_date_new (by decide +kernel), by decide +kernel, by rw [isSubtype_type]; kernel_rfl, slot_date_init⟩
theorem typeCall_date_3 (a b c : Value) : checkTypeCall "datetime.date" ⟨[a, b, c], []⟩ = pure () := by kernel_rfl
theorem newCall_date_3 (a b c : Value) : checkBuiltinCall "datetime.date.__new__" ⟨[.type "datetime.date", a, b, c], []⟩ = pure () := by kernel_rfl
theorem entry_date_new : entryFor table "datetime.date.__new__" = some Builtin.«datetime.date.__new__» := entryFor_of_tree (by kernel_rfl)
theorem plainAttrs_date : PlainAttrs "datetime.date" :=
  ⟨⟨"object.__getattribute__", by rw [typeLookup_type, builtinLookup_eq_fast]; kernel_rfl, by decide +kernel⟩, by rw [typeLookup_type, builtinLookup_eq_fast]; kernel_rfl⟩
theorem slot_date_weekday : Slot "datetime.date" "weekday" "datetime.date.weekday" :=
  .of (owner := "datetime.date") (n := "weekday") (by rw [typeLookup_type, builtinLookup_eq_fast]; kernel_rfl) (by decide +kernel) (by decide +kernel) (by decide +kernel)
    (by first | exact .inl (by decide +kernel) | exact .inr (by decide +kernel)) (by rw [isSubtype_type]; kernel_rfl)
theorem type_date_weekday : typeOf (.builtin "datetime.date.weekday") = pure (.type "method_descriptor") := by show builtinType _ = _; rw [builtinType_eq_fast]; kernel_rfl
theorem entry_date_weekday : entryFor table "datetime.date.weekday" = some Builtin.«datetime.date.weekday» := entryFor_of_tree (by kernel_rfl)
theorem args_date_weekday (a : Value) : argsOk "datetime.date.weekday" ⟨[a], []⟩ := by unfold argsOk; kernel_rfl
theorem args_date_init (obj a b c : Value) : argsOk "object.__init__" ⟨[obj, a, b, c], []⟩ := by unfold argsOk; kernel_rfl
end Mine
end

section -- DU
open PySem PySem.Calls PyProof.Rows
set_option maxRecDepth 100000
namespace Mine
open PySem.Builtin._datetime PySem.AutoSeq1

theorem wpAny_dtCInt {M : Model} {A : Around} {E : Value → Shared → Prop} {h : Heap} {g : Array GenState} {d : Drawn} {tk : Nat} {os : OsState} {n : Int} {t : Tok} {Q : Int → Shared → Prop} (h1 : -(2 ^ 31) ≤ n) (h2 : n < 2 ^ 31) (hq : Q n ⟨h, g, d, tk, os⟩) : wpAny M A (dtCInt (.int n t)) Q E ⟨h, g, d, tk, os⟩ := by
  have f3 := idx_int
  unfold dtCInt
  wp_walk
  rw [if_neg (by simp; omega)]
  wp_walk
  rw [if_neg (by omega)]
  wp_walk
  rw [if_neg (by omega)]
  wp_walk
  exact hq

theorem wpAny_checkDate {M : Model} {A : Around} {E : Value → Shared → Prop} {h : Heap} {g : Array GenState} {dr : Drawn} {tk : Nat} {os : OsState} {y m d : Int} {Q : Unit → Shared → Prop} (hy1 : 1 ≤ y) (hy2 : y ≤ 9999) (hm1 : 1 ≤ m) (hm2 : m ≤ 12) (hd1 : 1 ≤ d) (hd2 : d ≤ daysInMonth y m) (hq : Q () ⟨h, g, dr, tk, os⟩) : wpAny M A (checkDate y m d) Q E ⟨h, g, dr, tk, os⟩ := by
  unfold checkDate
  iterate 3 (try (rw [if_neg (by simp; omega)]; wp_walk))
  exact hq

set_option maxHeartbeats 1000000 in
theorem meets_date_new (y m d : Int) (t u v : Tok) (hy1 : 1 ≤ y) (hy2 : y ≤ 9999) (hm1 : 1 ≤ m) (hm2 : m ≤ 12) (hd1 : 1 ≤ d) (hd2 : d ≤ daysInMonth y m) (hd3 : d < 100) :
    Meets (Builtin.«datetime.date.__new__» ⟨[.type "datetime.date", .int y t, .int m u, .int d v], []⟩) (fun _ R s => R (.ok (.ret (Value.ref s.heap.objs.size))) { s with heap := s.heap.push { cls := Value.type "datetime.date", data := Data.fields #[rawInt y, rawInt m, rawInt d] } }) :=
  .of_wp fun prog w A R s h => by
    obtain ⟨hp, g, d, tk, os⟩ := s
    have f1 := sub_date_date
    have f2 := sub_date_datetime
    have f3 := idx_int
    wp_walk using (wpAny_dtCInt (by omega) (by omega)), (wpAny_checkDate hy1 hy2 hm1 hm2 hd1 hd2)
    exact ⟨_, rfl, h⟩

theorem meets_date_weekday (a : Addr) (y m d : Int) :
    Meets (Builtin.«datetime.date.weekday» ⟨[.ref a], []⟩) (fun _ R s => s.heap.get? a = some { cls := Value.type "datetime.date", data := Data.fields #[rawInt y, rawInt m, rawInt d] } ∧ R (.ok (.ret (Value.int (weekdayOf (toOrdinal y m d)) s.toks))) { s with toks := s.toks + 1 }) :=
  .of_wp fun prog w A R s h => by
    obtain ⟨hp, g, d, tk, os⟩ := s
    obtain ⟨hl, h⟩ := h
    have f1 := sub_date_date
    have f2 := sub_date_datetime
    have f3 := idx_int
    wp_walk using wpAny_loadPart' hl
    exact ⟨_, rfl, h⟩

def dateObj (y m d : Int) : Obj := { cls := Value.type "datetime.date", data := Data.fields #[rawInt y, rawInt m, rawInt d] }

section
variable {prog : Program} {w : World} {A : Around} {E : Value → Shared → Prop} {s : Shared} {h₀ : Heap} {L : Addr} {mm : Str → Option Value} {news : List (Addr × Obj)}
theorem call_date {y m d : Int} {t u v : Tok} {Q : Value → Shared → Prop} (F : Fr h₀ L s.heap mm) (N : News h₀ L s.heap news) (hy1 : 1 ≤ y) (hy2 : y ≤ 9999) (hm1 : 1 ≤ m) (hm2 : m ≤ 12) (hd1 : 1 ≤ d) (hd2 : d ≤ daysInMonth y m) (hd3 : d < 100)
    (h : ∀ a h', Fr h₀ L h' mm → News h₀ L h' ((a, dateObj y m d) :: news) → (∀ q ∈ news, q.1 < a) → Q (.ref a) { s with heap := h' }) :
    wpAny (model prog w) A (call (.type "datetime.date") [.int y t, .int m u, .int d v]) Q E s := by
  refine callType_new called_date (by decide) (typeCall_date_3 _ _ _) (newCall_date_3 _ _ _) (fun obj => args_date_init obj _ _ _) entry_date_new (meets_date_new y m d t u v hy1 hy2 hm1 hm2 hd1 hd2 hd3) ⟨⟨dateObj y m d, ?_, rfl⟩, ?_⟩
  · exact Heap.get?_push_size _ rfl
  · exact h _ _ (F.push _) (N.push F _) (fun q hq => Heap.lt_size (N q hq).1)
theorem getMethod_weekday {a : Addr} {y m d : Int} {pl : Sem Bool} {Q : Value × List Value → Shared → Prop} (N : News h₀ L s.heap news) (hm : (a, dateObj y m d) ∈ news) (h : Q (.builtin "datetime.date.weekday", [.ref a]) s) :
    wpAny (model prog w) A (getMethod (.ref a) "weekday" pl) Q E s :=
  getMethod_builtin ⟨_, N.get hm, rfl⟩ plainAttrs_date slot_date_weekday type_date_weekday (fun b e => by cases e; exact ⟨_, N.get hm, rfl⟩) h
theorem call_weekday {a : Addr} {y m d : Int} {Q : Value → Shared → Prop} (N : News h₀ L s.heap news) (hm : (a, dateObj y m d) ∈ news) (h : Q (.int (weekdayOf (toOrdinal y m d)) s.toks) { s with toks := s.toks + 1 }) :
    wpAny (model prog w) A (call (.builtin "datetime.date.weekday") [.ref a]) Q E s :=
  call_meets slot_date_weekday ⟨_, N.get hm, rfl⟩ entry_date_weekday (args_date_weekday _) (meets_date_weekday a y m d) ⟨N.get hm, h⟩
end
end Mine
end

section -- ML
namespace Mine

/-! ## the plain law: six calendars, each an offset of the month's first day and the month's length -/
def gleap (y : Int) : Bool := y % 4 == 0 && (y % 100 != 0 || y % 400 == 0)
def jleap (y : Int) : Bool := y % 4 == 0
def mlen (l : Bool) (m : Int) : Int := if m = 2 then (if l then 29 else 28) else if m = 4 ∨ m = 6 ∨ m = 9 ∨ m = 11 then 30 else 31
def moff (l : Bool) (m : Int) : Int := (367 * m - 362) / 12 + (if m ≤ 2 then 0 else if l then -1 else -2)
def gY (y : Int) : Int := 1721424 + 365 * (y - 1) + (y - 1) / 4 - (y - 1) / 100 + (y - 1) / 400
def jY (y : Int) : Int := 1721422 + 365 * (y - 1) + (y - 1) / 4
def ileap (y : Int) : Bool := decide ((y * 11 + 14) % 30 < 11)
def ilen (y m : Int) : Int := if m = 1 ∨ m = 3 ∨ m = 5 ∨ m = 7 ∨ m = 9 ∨ m = 11 ∨ (m = 12 ∧ ileap y = true) then 30 else 29
def clen (y m : Int) : Int := if m ≤ 12 then 30 else if y % 4 = 3 then 6 else 5
def alen (m : Int) : Int := if m = 13 then 5 else 30
def slen (y m : Int) : Int := if m = 13 then (if 533 ≤ y ∧ y % 4 = 0 then 6 else 5) else 30

def Mx (k : Int) : Int := if k < 3 then 12 else 13
def Len (k y m : Int) : Int := if k = 0 then mlen (gleap y) m else if k = 1 then mlen (jleap y) m else if k = 2 then ilen y m else if k = 3 then clen y m else if k = 4 then alen m else slen y m
def Off (k y m : Int) : Int :=
  if k = 0 then gY y + moff (gleap y) m else if k = 1 then jY y + moff (jleap y) m
  else if k = 2 then 1948438 + (59 * (m - 1) + 1) / 2 + (y - 1) * 354 + (3 + 11 * y) / 30
  else if k = 3 then 1825028 + 30 * (m - 1) + 365 * (y - 1) + y / 4
  else if k = 4 then 1922501 + 365 * y + 30 * (m - 1)
  else 2117210 + 365 * (y - 533) + (y - 533) / 4 + 30 * (m - 1)
def Yr (k y : Int) : Prop := k = 5 → 533 ≤ y
structure Dat (k N y m d : Int) : Prop where
  yr : Yr k y
  m1 : 1 ≤ m
  m2 : m ≤ Mx k
  d1 : 1 ≤ d
  d2 : d ≤ Len k y m
  day : Off k y m + d = N

theorem six {k : Int} (h0 : 0 ≤ k) (h1 : k ≤ 5) : k = 0 ∨ k = 1 ∨ k = 2 ∨ k = 3 ∨ k = 4 ∨ k = 5 := by omega
theorem twelve {m : Int} (h0 : 1 ≤ m) (h1 : m ≤ 12) : m = 1 ∨ m = 2 ∨ m = 3 ∨ m = 4 ∨ m = 5 ∨ m = 6 ∨ m = 7 ∨ m = 8 ∨ m = 9 ∨ m = 10 ∨ m = 11 ∨ m = 12 := by omega
theorem thirteen {m : Int} (h0 : 1 ≤ m) (h1 : m ≤ 13) : m = 1 ∨ m = 2 ∨ m = 3 ∨ m = 4 ∨ m = 5 ∨ m = 6 ∨ m = 7 ∨ m = 8 ∨ m = 9 ∨ m = 10 ∨ m = 11 ∨ m = 12 ∨ m = 13 := by omega

theorem mstep (l : Bool) {m : Int} (h0 : 1 ≤ m) (h1 : m < 12) : moff l (m + 1) = moff l m + mlen l m := by
  rcases twelve h0 (by omega) with h | h | h | h | h | h | h | h | h | h | h | h <;> subst h <;> first | (cases l <;> decide) | omega

theorem off0 (y m : Int) : Off 0 y m = gY y + moff (gleap y) m := by rw [Off, if_pos rfl]
theorem off1 (y m : Int) : Off 1 y m = jY y + moff (jleap y) m := by rw [Off, if_neg (by decide), if_pos rfl]
theorem off2 (y m : Int) : Off 2 y m = 1948438 + (59 * (m - 1) + 1) / 2 + (y - 1) * 354 + (3 + 11 * y) / 30 := by rw [Off, if_neg (by decide), if_neg (by decide), if_pos rfl]
theorem off3 (y m : Int) : Off 3 y m = 1825028 + 30 * (m - 1) + 365 * (y - 1) + y / 4 := by rw [Off, if_neg (by decide), if_neg (by decide), if_neg (by decide), if_pos rfl]
theorem off4 (y m : Int) : Off 4 y m = 1922501 + 365 * y + 30 * (m - 1) := by rw [Off, if_neg (by decide), if_neg (by decide), if_neg (by decide), if_neg (by decide), if_pos rfl]
theorem off5 (y m : Int) : Off 5 y m = 2117210 + 365 * (y - 533) + (y - 533) / 4 + 30 * (m - 1) := by rw [Off, if_neg (by decide), if_neg (by decide), if_neg (by decide), if_neg (by decide), if_neg (by decide)]
theorem len0 (y m : Int) : Len 0 y m = mlen (gleap y) m := by rw [Len, if_pos rfl]
theorem len1 (y m : Int) : Len 1 y m = mlen (jleap y) m := by rw [Len, if_neg (by decide), if_pos rfl]
theorem len2 (y m : Int) : Len 2 y m = ilen y m := by rw [Len, if_neg (by decide), if_neg (by decide), if_pos rfl]
theorem len3 (y m : Int) : Len 3 y m = clen y m := by rw [Len, if_neg (by decide), if_neg (by decide), if_neg (by decide), if_pos rfl]
theorem len4 (y m : Int) : Len 4 y m = alen m := by rw [Len, if_neg (by decide), if_neg (by decide), if_neg (by decide), if_neg (by decide), if_pos rfl]
theorem len5 (y m : Int) : Len 5 y m = slen y m := by rw [Len, if_neg (by decide), if_neg (by decide), if_neg (by decide), if_neg (by decide), if_neg (by decide)]
theorem mx0 : Mx 0 = 12 := rfl
theorem mx1 : Mx 1 = 12 := rfl
theorem mx2 : Mx 2 = 12 := rfl
theorem mx3 : Mx 3 = 13 := rfl
theorem mx4 : Mx 4 = 13 := rfl
theorem mx5 : Mx 5 = 13 := rfl

theorem ilen_odd {y m : Int} (h0 : 1 ≤ m) (h1 : m < 12) : ilen y m = if m % 2 = 1 then 30 else 29 := by
  rcases twelve h0 (by omega) with h | h | h | h | h | h | h | h | h | h | h | h <;> subst h <;> first | (exfalso; omega) | simp [ilen]

theorem off_m {k y m : Int} (h0 : 0 ≤ k) (h1 : k ≤ 5) (hm : 1 ≤ m) (hx : m < Mx k) : Off k y (m + 1) = Off k y m + Len k y m := by
  rcases six h0 h1 with h | h | h | h | h | h <;> subst h
  · rw [off0, off0, len0, mstep _ hm (by rw [mx0] at hx; exact hx)]; omega
  · rw [off1, off1, len1, mstep _ hm (by rw [mx1] at hx; exact hx)]; omega
  · rw [mx2] at hx
    rw [off2, off2, len2, ilen_odd hm hx]
    split <;> omega
  · rw [mx3] at hx
    rw [off3, off3, len3, clen, if_pos (by omega)]; omega
  · rw [mx4] at hx
    rw [off4, off4, len4, alen, if_neg (by omega)]; omega
  · rw [mx5] at hx
    rw [off5, off5, len5, slen, if_neg (by omega)]; omega

theorem gyear (y : Int) : gY (y + 1) = gY y + (if gleap y then 366 else 365) := by
  unfold gY gleap
  simp only [Bool.and_eq_true, Bool.or_eq_true, beq_iff_eq, bne_iff_ne]
  split <;> omega
theorem jyear (y : Int) : jY (y + 1) = jY y + (if jleap y then 366 else 365) := by
  unfold jY jleap
  simp only [beq_iff_eq]
  split <;> omega
theorem off_y {k y : Int} (h0 : 0 ≤ k) (h1 : k ≤ 5) (hy : Yr k y) : Off k (y + 1) 1 = Off k y (Mx k) + Len k y (Mx k) := by
  rcases six h0 h1 with h | h | h | h | h | h <;> subst h
  · rw [off0, off0, len0, mx0, gyear]
    cases gleap y <;> cases gleap (y + 1) <;> simp [moff, mlen] <;> omega
  · rw [off1, off1, len1, mx1, jyear]
    cases jleap y <;> cases jleap (y + 1) <;> simp [moff, mlen] <;> omega
  · rw [off2, off2, len2, mx2, show (3 + 11 * (y + 1)) = y * 11 + 14 by omega]
    have hl : ilen y 12 = if (y * 11 + 14) % 30 < 11 then 30 else 29 := by simp [ilen, ileap]
    rw [hl]
    split <;> omega
  · rw [off3, off3, len3, mx3, clen, if_neg (by decide)]
    split <;> omega
  · rw [off4, off4, len4, mx4, alen, if_pos rfl]; omega
  · have := hy rfl
    rw [off5, off5, len5, mx5, slen, if_pos rfl]
    split <;> omega

theorem len_pos {k y m : Int} (h0 : 0 ≤ k) (h1 : k ≤ 5) : 1 ≤ Len k y m := by
  rcases six h0 h1 with h | h | h | h | h | h <;> subst h
  · rw [len0]; unfold mlen; split <;> (try split) <;> (try split) <;> omega
  · rw [len1]; unfold mlen; split <;> (try split) <;> (try split) <;> omega
  · rw [len2]; unfold ilen; split <;> omega
  · rw [len3]; unfold clen; split <;> (try split) <;> omega
  · rw [len4]; unfold alen; split <;> omega
  · rw [len5]; unfold slen; split <;> (try split) <;> omega

theorem off_mm {k y m : Int} (h0 : 0 ≤ k) (h1 : k ≤ 5) (hm : 1 ≤ m) : ∀ n : Nat, m + n + 1 ≤ Mx k → Off k y m + Len k y m ≤ Off k y (m + n + 1) := by
  intro n
  induction n with
  | zero => intro h; rw [show m + ((0 : Nat) : Int) + 1 = m + 1 by omega, off_m h0 h1 hm (by omega)]; exact Int.le_refl _
  | succ n ih =>
    intro h
    have h2 := ih (by omega)
    have h3 := off_m (y := y) h0 h1 (show 1 ≤ m + n + 1 by omega) (by omega)
    have h4 := len_pos (y := y) (m := m + n + 1) h0 h1
    rw [show m + ((n + 1 : Nat) : Int) + 1 = m + n + 1 + 1 by omega]
    omega

theorem off_lt {k y m m' : Int} (h0 : 0 ≤ k) (h1 : k ≤ 5) (hm : 1 ≤ m) (hl : m < m') (hx : m' ≤ Mx k) : Off k y m + Len k y m ≤ Off k y m' := by
  have := off_mm (y := y) h0 h1 hm (m' - m - 1).toNat (by omega)
  rw [show m + (((m' - m - 1).toNat : Nat) : Int) + 1 = m' by omega] at this
  exact this

theorem off_next {k y m : Int} (h0 : 0 ≤ k) (h1 : k ≤ 5) (hy : Yr k y) (hm : 1 ≤ m) (hx : m ≤ Mx k) : Off k y m + Len k y m ≤ Off k (y + 1) 1 := by
  rw [off_y h0 h1 hy]
  rcases Int.lt_or_eq_of_le hx with h | h
  · have := off_lt (y := y) h0 h1 hm h (Int.le_refl _)
    have := len_pos (y := y) (m := Mx k) h0 h1
    omega
  · rw [h]; exact Int.le_refl _

theorem mx_pos (k : Int) : 12 ≤ Mx k := by unfold Mx; split <;> omega

theorem off_first {k y m : Int} (h0 : 0 ≤ k) (h1 : k ≤ 5) (hm : 1 ≤ m) (hx : m ≤ Mx k) : Off k y 1 ≤ Off k y m := by
  rcases Int.lt_or_eq_of_le hm with h | h
  · have := off_lt (y := y) h0 h1 (Int.le_refl 1) h hx
    have := len_pos (y := y) (m := 1) h0 h1
    omega
  · rw [← h]; exact Int.le_refl _

theorem off_yy {k y : Int} (h0 : 0 ≤ k) (h1 : k ≤ 5) (hy : Yr k y) : ∀ n : Nat, Off k (y + 1) 1 ≤ Off k (y + 1 + n) 1 := by
  intro n
  induction n with
  | zero => rw [show y + 1 + ((0 : Nat) : Int) = y + 1 by omega]; exact Int.le_refl _
  | succ n ih =>
    have hy' : Yr k (y + 1 + n) := fun h => by have := hy h; omega
    have h2 := off_next h0 h1 hy' (Int.le_refl 1) (by have := mx_pos k; omega)
    have h3 := len_pos (y := y + 1 + n) (m := 1) h0 h1
    rw [show y + 1 + ((n + 1 : Nat) : Int) = y + 1 + n + 1 by omega]
    omega

theorem off_later {k y m y' m' : Int} (h0 : 0 ≤ k) (h1 : k ≤ 5) (hy : Yr k y) (hm : 1 ≤ m) (hx : m ≤ Mx k) (hm' : 1 ≤ m') (hx' : m' ≤ Mx k) (hl : y < y') : Off k y m + Len k y m ≤ Off k y' m' := by
  have a := off_next h0 h1 hy hm hx
  have b := off_yy h0 h1 hy (y' - y - 1).toNat
  rw [show y + 1 + (((y' - y - 1).toNat : Nat) : Int) = y' by omega] at b
  have c := off_first (y := y') h0 h1 hm' hx'
  omega

theorem uniq {k N y m d y' m' d' : Int} (h0 : 0 ≤ k) (h1 : k ≤ 5) (a : Dat k N y m d) (b : Dat k N y' m' d') : y' = y ∧ m' = m ∧ d' = d := by
  obtain ⟨ay, am1, am2, ad1, ad2, ad⟩ := a
  obtain ⟨by', bm1, bm2, bd1, bd2, bd⟩ := b
  rcases Int.lt_trichotomy y y' with h | h | h
  · have := off_later h0 h1 ay am1 am2 bm1 bm2 h; omega
  · subst h
    rcases Int.lt_trichotomy m m' with h | h | h
    · have := off_lt (y := y) h0 h1 am1 h bm2; omega
    · subst h; exact ⟨rfl, rfl, by omega⟩
    · have := off_lt (y := y) h0 h1 bm1 h am2; omega
  · have := off_later h0 h1 by' bm1 bm2 am1 am2 h; omega

end Mine
end

section -- MG
namespace Mine

structure GY (N Y : Int) : Prop where
  y1 : 1 ≤ Y
  y2 : Y ≤ 100000
  lo : 0 ≤ N - Off 0 Y 1 - 1
  hi : N - Off 0 Y 1 - 1 ≤ 365
  hl : gleap Y = false → N - Off 0 Y 1 - 1 ≤ 364
  b1 : 0 ≤ Off 0 Y 1
  b2 : Off 0 Y 1 ≤ 40000000

theorem off01 (Y : Int) : Off 0 Y 1 = gY Y := by
  rw [off0, moff, if_pos (by decide)]; omega

theorem gy_a {N q c qd yi r1 r2 r3 : Int} (hN1 : 2000000 ≤ N) (hN2 : N ≤ 30000000) (hq : q = (N - 1721425) / 146097) (h1 : r1 = (N - 1721425) % 146097) (hc : c = r1 / 36524) (h2 : r2 = r1 % 36524) (hqd : qd = r2 / 1461) (h3 : r3 = r2 % 1461) (hyi : yi = r3 / 365)
    (k1 : ¬ c = 4) (k2 : ¬ yi = 4) : GY N (q * 400 + c * 100 + qd * 4 + yi + 1) := by
  have bq : 0 ≤ q ∧ q ≤ 250 := by omega
  have bc : 0 ≤ c ∧ c ≤ 3 := by omega
  have bqd : 0 ≤ qd ∧ qd ≤ 24 := by omega
  have byi : 0 ≤ yi ∧ yi ≤ 3 := by omega
  have sN : N = 1721425 + 146097 * q + 36524 * c + 1461 * qd + r3 := by omega
  have b3 : 365 * yi ≤ r3 ∧ r3 < 365 * yi + 365 := by omega
  clear hq h1 hc h2 hqd h3 hyi
  have e : Off 0 (q * 400 + c * 100 + qd * 4 + yi + 1) 1 = 1721424 + 146097 * q + 36524 * c + 1461 * qd + 365 * yi := by
    rw [off01]; unfold gY
    have y4 : (q * 400 + c * 100 + qd * 4 + yi + 1 - 1) / 4 = q * 100 + c * 25 + qd := by omega
    have y100 : (q * 400 + c * 100 + qd * 4 + yi + 1 - 1) / 100 = q * 4 + c := by omega
    have y400 : (q * 400 + c * 100 + qd * 4 + yi + 1 - 1) / 400 = q := by omega
    rw [y4, y100, y400]; omega
  refine ⟨by omega, by omega, ?_, ?_, fun _ => ?_, ?_, ?_⟩ <;> rw [e] <;> omega

theorem gy_b {N q c qd yi r1 r2 r3 : Int} (hN1 : 2000000 ≤ N) (hN2 : N ≤ 30000000) (hq : q = (N - 1721425) / 146097) (h1 : r1 = (N - 1721425) % 146097) (hc : c = r1 / 36524) (h2 : r2 = r1 % 36524) (hqd : qd = r2 / 1461) (h3 : r3 = r2 % 1461) (hyi : yi = r3 / 365)
    (k : c = 4 ∨ yi = 4) : GY N (q * 400 + c * 100 + qd * 4 + yi) := by
  have bq : 0 ≤ q ∧ q ≤ 250 := by omega
  by_cases k1 : c = 4
  · have e1 : r1 = 146096 := by omega
    have e2 : r2 = 0 := by omega
    have e3 : qd = 0 := by omega
    have e4 : yi = 0 := by omega
    have sN : N = 1721425 + 146097 * q + 146096 := by omega
    clear hq h1 hc h2 hqd h3 hyi k
    subst k1 e3 e4
    have e : Off 0 (q * 400 + 4 * 100 + 0 * 4 + 0) 1 = 1721424 + 146097 * q + 145731 := by
      rw [off01]; unfold gY; omega
    have hl : gleap (q * 400 + 4 * 100 + 0 * 4 + 0) = true := by
      unfold gleap; simp; omega
    refine ⟨by omega, by omega, ?_, ?_, fun h => absurd (hl.symm.trans h) (by decide), ?_, ?_⟩ <;> rw [e] <;> omega
  · have k2 : yi = 4 := by omega
    have e3 : r3 = 1460 := by omega
    have bc : 0 ≤ c ∧ c ≤ 3 := by omega
    have bqd : 0 ≤ qd ∧ qd ≤ 23 := by omega
    have sN : N = 1721425 + 146097 * q + 36524 * c + 1461 * qd + 1460 := by omega
    clear hq h1 hc h2 hqd h3 hyi k
    subst k2
    have e : Off 0 (q * 400 + c * 100 + qd * 4 + 4) 1 = 1721424 + 146097 * q + 36524 * c + 1461 * qd + 1095 := by
      rw [off01]; unfold gY
      have y4 : (q * 400 + c * 100 + qd * 4 + 4 - 1) / 4 = q * 100 + c * 25 + qd := by omega
      have y100 : (q * 400 + c * 100 + qd * 4 + 4 - 1) / 100 = q * 4 + c := by omega
      have y400 : (q * 400 + c * 100 + qd * 4 + 4 - 1) / 400 = q := by omega
      rw [y4, y100, y400]; omega
    have hl : gleap (q * 400 + c * 100 + qd * 4 + 4) = true := by
      unfold gleap; simp; omega
    refine ⟨by omega, by omega, ?_, ?_, fun h => absurd (hl.symm.trans h) (by decide), ?_, ?_⟩ <;> rw [e] <;> omega

/-- the month of a day of the year -/
def mth (l : Bool) (yd : Int) : Int := ((yd + (if yd < 58 + (if l then 1 else 0) then 0 else if l then 1 else 2)) * 12 + 373) / 367
theorem mth_all : (List.range 366).all (fun n => [true, false].all fun l => (n == 365 && !l) || (decide (1 ≤ mth l n) && decide (mth l n ≤ 12) && decide (moff l (mth l n) ≤ n) && decide ((n : Int) < moff l (mth l n) + mlen l (mth l n)))) = true := by decide +kernel
theorem mth_ok {l : Bool} {yd : Int} (h0 : 0 ≤ yd) (h1 : yd ≤ 365) (h2 : l = false → yd ≤ 364) : 1 ≤ mth l yd ∧ mth l yd ≤ 12 ∧ moff l (mth l yd) ≤ yd ∧ yd < moff l (mth l yd) + mlen l (mth l yd) := by
  obtain ⟨n, rfl⟩ : ∃ n : Nat, yd = (n : Int) := ⟨yd.toNat, by omega⟩
  have h := List.all_eq_true.mp mth_all n (List.mem_range.mpr (by omega))
  have h3 := List.all_eq_true.mp h l (by cases l <;> simp)
  simp only [Bool.or_eq_true, Bool.and_eq_true, decide_eq_true_eq, beq_iff_eq, Bool.not_eq_true'] at h3
  rcases h3 with ⟨e, hl⟩ | ⟨⟨⟨a, b⟩, c⟩, d⟩
  · have := h2 hl; omega
  · exact ⟨a, b, c, d⟩

structure GM (N Y M : Int) : Prop where
  m1 : 1 ≤ M
  m2 : M ≤ 12
  lo : 0 ≤ N - Off 0 Y M - 1
  hi : N - Off 0 Y M - 1 ≤ 31
  dat : Dat 0 N Y M (N - Off 0 Y M)

theorem gm_ok {N Y M yd : Int} (g : GY N Y) (hyd : yd = N - Off 0 Y 1 - 1) (hM : M = mth (gleap Y) yd) : GM N Y M := by
  have hl := g.hl
  have g1 := g.lo
  have g2 := g.hi
  obtain ⟨a, b, c, d⟩ := mth_ok (l := gleap Y) (yd := yd) (by omega) (by omega) (fun h => by have := hl h; omega)
  rw [← hM] at a b c d
  have e1 : Off 0 Y M = gY Y + moff (gleap Y) M := off0 Y M
  have e2 : Off 0 Y 1 = gY Y := off01 Y
  have e3 : mlen (gleap Y) M ≤ 31 := by unfold mlen; split <;> (try split) <;> (try split) <;> omega
  refine ⟨a, b, by omega, by omega, ⟨fun h => absurd h (by decide), a, b, by omega, by rw [len0]; omega, by omega⟩⟩
end Mine
end

section -- MH
namespace Mine

/-! ## the other calendars' dates -/
theorem jul_r {b c : Int} (h1 : 2000000 ≤ b) (h2 : b ≤ 40000000) (hc : c = (4 * b - 489) / 1461) : 123 ≤ b - 1461 * c / 4 ∧ b - 1461 * c / 4 ≤ 488 ∧ (b - 1461 * c / 4 = 488 → c % 4 = 3) ∧ 5000 ≤ c ∧ c ≤ 200000 := by omega

theorem jul_lo {N b c e : Int} (hb : b = N + 1525) (h1 : 2000000 ≤ b) (h2 : b ≤ 40000000) (hc : c = (4 * b - 489) / 1461) (he : e = (b - 1461 * c / 4) * 10000 / 306001) (he2 : e < 14) :
    Dat 1 N (c - 4716) (e - 1) (b - 1461 * c / 4 - e * 306001 / 10000) := by
  obtain ⟨r1, r2, r3, c1, c2⟩ := jul_r h1 h2 hc
  have hl : jleap (c - 4716) = decide (c % 4 = 0) := by unfold jleap; rw [Bool.eq_iff_iff]; simp; omega
  have hr : b = 1461 * c / 4 + (b - 1461 * c / 4) := by omega
  generalize hrr : b - 1461 * c / 4 = r at *
  have e1 : 4 ≤ e := by omega
  have hY : Off 1 (c - 4716) (e - 1) = jY (c - 4716) + moff (jleap (c - 4716)) (e - 1) := off1 _ _
  have hL : Len 1 (c - 4716) (e - 1) = mlen (jleap (c - 4716)) (e - 1) := len1 _ _
  have hj : jY (c - 4716) = 1461 * c / 4 - 1464 + (if c % 4 = 0 then 1 else 2) := by
    have q1 : 1461 * c / 4 = 365 * c + c / 4 := by omega
    have q2 : (c - 4716 - 1) / 4 = c / 4 - 1180 + (if c % 4 = 0 then 0 else 1) := by split <;> omega
    unfold jY
    rw [q1, q2]
    split <;> omega
  have hm : moff (jleap (c - 4716)) (e - 1) = (367 * (e - 1) - 362) / 12 - (if c % 4 = 0 then 1 else 2) := by
    unfold moff
    rw [if_neg (by omega), hl]
    by_cases h : c % 4 = 0 <;> simp [h] <;> omega
  have cases : e = 4 ∨ e = 5 ∨ e = 6 ∨ e = 7 ∨ e = 8 ∨ e = 9 ∨ e = 10 ∨ e = 11 ∨ e = 12 ∨ e = 13 := by omega
  refine ⟨fun h => absurd h (by decide), by omega, by rw [mx1]; omega, by omega, ?_, ?_⟩
  · rw [hL]
    unfold mlen
    rw [if_neg (by omega)]
    rcases cases with h | h | h | h | h | h | h | h | h | h <;> subst h <;> simp <;> omega
  · rw [hY, hj, hm]
    rcases cases with h | h | h | h | h | h | h | h | h | h <;> subst h <;> simp <;> omega

theorem jul_hi {N b c e : Int} (hb : b = N + 1525) (h1 : 2000000 ≤ b) (h2 : b ≤ 40000000) (hc : c = (4 * b - 489) / 1461) (he : e = (b - 1461 * c / 4) * 10000 / 306001) (he2 : ¬ e < 14) :
    Dat 1 N (c - 4715) (e - 13) (b - 1461 * c / 4 - e * 306001 / 10000) := by
  obtain ⟨r1, r2, r3, c1, c2⟩ := jul_r h1 h2 hc
  have hl : jleap (c - 4715) = decide (c % 4 = 3) := by unfold jleap; rw [Bool.eq_iff_iff]; simp; omega
  have hr : b = 1461 * c / 4 + (b - 1461 * c / 4) := by omega
  generalize hrr : b - 1461 * c / 4 = r at *
  have hY : Off 1 (c - 4715) (e - 13) = jY (c - 4715) + moff (jleap (c - 4715)) (e - 13) := off1 _ _
  have hL : Len 1 (c - 4715) (e - 13) = mlen (jleap (c - 4715)) (e - 13) := len1 _ _
  have hj : jY (c - 4715) = 1461 * c / 4 - 1525 + 428 := by unfold jY; omega
  have cases : e = 14 ∨ e = 15 := by omega
  refine ⟨fun h => absurd h (by decide), by omega, by rw [mx1]; omega, by omega, ?_, ?_⟩
  · rw [hL, hl]
    rcases cases with h | h <;> subst h
    · simp [mlen]; omega
    · by_cases h : c % 4 = 3
      · simp [mlen, h]; omega
      · simp [mlen, h]; omega
  · rw [hY, hj]
    rcases cases with h | h <;> subst h <;> simp [moff] <;> omega

/-- Coptic -/
theorem cop_dat {N y m d : Int} (h1 : 2000000 ≤ N) (h2 : N ≤ 40000000) (hy : y = (4 * (N - 1825029) + 1463) / 1461) (hm : m = (N - (1825029 + 365 * (y - 1) + y / 4)) / 30 + 1) (hd : d = N - (1825029 + 365 * (y - 1) + y / 4) - (m - 1) * 30 + 1) : Dat 3 N y m d := by
  have b0 : 0 ≤ N - (1825029 + 365 * (y - 1) + y / 4) := by omega
  have b1 : N - (1825029 + 365 * (y - 1) + y / 4) ≤ 365 := by omega
  have b2 : N - (1825029 + 365 * (y - 1) + y / 4) = 365 → y % 4 = 3 := by omega
  refine ⟨fun h => absurd h (by decide), by omega, by rw [mx3]; omega, by omega, ?_, by rw [off3]; omega⟩
  rw [len3]; unfold clen
  split
  · omega
  · split <;> omega

/-- Islamic: the year's day -/
theorem isl_yd {N y : Int} (h1 : 2000000 ≤ N) (h2 : N ≤ 40000000) (hy : y = (30 * (N - 1948439) + 10646) / 10631) : 0 ≤ N - (1948439 + (y - 1) * 354 + (3 + 11 * y) / 30) ∧ N - (1948439 + (y - 1) * 354 + (3 + 11 * y) / 30) ≤ 354 ∧ (N - (1948439 + (y - 1) * 354 + (3 + 11 * y) / 30) = 354 → (y * 11 + 14) % 30 < 11) ∧ 1 ≤ y ∧ y ≤ 200000 := by
  refine ⟨by omega, by omega, fun h => ?_, by omega, by omega⟩
  have g1 : 16 ≤ 11 * y - 30 * ((3 + 11 * y) / 30) := by omega
  have e : (y * 11 + 14) / 30 = (3 + 11 * y) / 30 + 1 := by omega
  omega
theorem isl_dat {N y m d yd : Int} (h1 : 2000000 ≤ N) (h2 : N ≤ 40000000) (hy : y = (30 * (N - 1948439) + 10646) / 10631) (hyd : yd = N - (1948439 + (y - 1) * 354 + (3 + 11 * y) / 30)) (hm : m = min 12 (-((-(2 * (yd - 29))) / 59) + 1)) (hd : d = yd - (59 * (m - 1) + 1) / 2 + 1) : Dat 2 N y m d := by
  obtain ⟨b0, b1, b2, _, _⟩ := isl_yd h1 h2 hy
  rw [← hyd] at b0 b1 b2
  have m1 : 1 ≤ m := by omega
  have m2 : m ≤ 12 := by omega
  refine ⟨fun h => absurd h (by decide), m1, by rw [mx2]; omega, by omega, ?_, by rw [off2]; omega⟩
  rw [len2]
  rcases Int.lt_or_eq_of_le m2 with h | h
  · rw [ilen_odd m1 h]; split <;> omega
  · have hl : ilen y m = if (y * 11 + 14) % 30 < 11 then 30 else 29 := by rw [h]; simp [ilen, ileap]
    rw [hl]
    split <;> omega

/-- Armenian, loose -/
theorem arm_dat {N y m d : Int} (h1 : 2000000 ≤ N) (h2 : N ≤ 40000000) (hy : y = (N - 1922501 - 1) / 365) (hm : m = (N - 1922501 - 1) % 365 / 30 + 1) (hd : d = N - 1922501 - 365 * y - 30 * (m - 1)) : Dat 4 N y m d := by
  refine ⟨fun h => absurd h (by decide), by omega, by rw [mx4]; omega, by omega, ?_, by rw [off4]; omega⟩
  rw [len4]; unfold alen
  split <;> omega

/-- Armenian, Sarkawag -/
theorem sark_lo {N q y m d : Int} (h1 : 2117599 ≤ N) (h2 : N ≤ 40000000) (hq : q = 4 * (N - 2117210) / 1461) (hz : N - 2117210 - (365 * q + q / 4) = 0) (hy : y = q - 1 + 533) (hm : m = ((if q % 4 = 0 then 366 else 365) - 1) / 30 + 1) (hd : d = (if q % 4 = 0 then 366 else 365) - 30 * (m - 1)) : Dat 5 N y m d := by
  have hq1 : 1 ≤ q := by omega
  refine ⟨fun _ => by omega, ?_, ?_, ?_, ?_, ?_⟩
  · split at hm <;> omega
  · rw [mx5]; split at hm <;> omega
  · split at hm <;> split at hd <;> omega
  · rw [len5]; unfold slen
    split at hm
    · rename_i h4
      rw [if_pos h4] at hd
      rw [if_pos (by omega), if_pos (by omega)]; omega
    · rename_i h4
      rw [if_neg h4] at hd
      rw [if_pos (by omega), if_neg (by omega)]; omega
  · rw [off5]
    split at hd <;> omega
theorem sark_hi {N q y m d : Int} (h1 : 2117599 ≤ N) (h2 : N ≤ 40000000) (hq : q = 4 * (N - 2117210) / 1461) (hz : ¬ N - 2117210 - (365 * q + q / 4) = 0) (hy : y = q + 533) (hm : m = (N - 2117210 - (365 * q + q / 4) - 1) / 30 + 1) (hd : d = N - 2117210 - (365 * q + q / 4) - 30 * (m - 1)) : Dat 5 N y m d := by
  have hq1 : 1 ≤ q := by omega
  have b0 : 1 ≤ N - 2117210 - (365 * q + q / 4) := by omega
  have b1 : N - 2117210 - (365 * q + q / 4) ≤ 365 := by omega
  refine ⟨fun _ => by omega, by omega, by rw [mx5]; omega, by omega, ?_, by rw [off5]; omega⟩
  rw [len5]; unfold slen
  split
  · split <;> omega
  · omega
end Mine
end

section -- FX
open PySem PySem.Float64
namespace Mine

/-! ## doubles: what a rounded result is bounded by -/

theorem core_lo {W D t : Nat} (hD : 0 < D) (h : ∀ t', dist W (D * V t) ≤ dist W (D * V t')) (t' : Nat) (hle : D * V t' ≤ W) : V t' ≤ V t := by
  by_cases hc : V t' ≤ V t
  · exact hc
  · exfalso
    have h1 := h t'
    have h2 : D * V t < D * V t' := Nat.mul_lt_mul_of_pos_left (Nat.lt_of_not_le hc) hD
    unfold dist at h1
    generalize D * V t = a at *
    generalize D * V t' = b at *
    omega

theorem core_hi {W D t : Nat} (hD : 0 < D) (h : ∀ t', dist W (D * V t) ≤ dist W (D * V t')) (t' : Nat) (hle : W ≤ D * V t') : V t ≤ V t' := by
  by_cases hc : V t ≤ V t'
  · exact hc
  · exfalso
    have h1 := h t'
    have h2 : D * V t' < D * V t := Nat.mul_lt_mul_of_pos_left (Nat.lt_of_not_le hc) hD
    unfold dist at h1
    generalize D * V t = a at *
    generalize D * V t' = b at *
    omega

theorem rep (k : Nat) (hk : k < 2 ^ 53) : ∃ t, V t = k * 2 ^ 1054 := by
  by_cases h0 : k = 0
  · exact ⟨0, by rw [V_zero, h0, Nat.zero_mul]⟩
  · have hl : k.log2 < 53 := (Nat.log2_lt h0).mpr hk
    have h1 : 2 ^ k.log2 ≤ k := Nat.log2_self_le h0
    have h2 : k < 2 ^ (k.log2 + 1) := Nat.lt_log2_self
    have hq1 : 2 ^ 52 ≤ k * 2 ^ (52 - k.log2) := by
      have : (2 : Nat) ^ 52 = 2 ^ k.log2 * 2 ^ (52 - k.log2) := by rw [← Nat.pow_add]; congr 1; omega
      rw [this]
      exact Nat.mul_le_mul_right _ h1
    have hq2 : k * 2 ^ (52 - k.log2) ≤ 2 ^ 53 := by
      have : (2 : Nat) ^ 53 = 2 ^ (k.log2 + 1) * 2 ^ (52 - k.log2) := by rw [← Nat.pow_add]; congr 1; omega
      rw [this]
      exact Nat.mul_le_mul_right _ (Nat.le_of_lt h2)
    refine ⟨(1054 - (52 - k.log2)) * 2 ^ 52 + k * 2 ^ (52 - k.log2), ?_⟩
    rw [V_at hq2 (.inl hq1), Nat.mul_assoc, ← Nat.pow_add]
    congr 2
    omega

def Fin (x : UInt64) : Prop := ∃ a m e, decode x = .fin a m e

theorem not_over {W D : Nat} (hD : 0 < D) (hW : W ≤ D * 2 ^ 1140) (h : D * ((2 ^ 54 - 1) * 2 ^ 2045) ≤ 2 * W) : False := by
  have h1 : D * ((2 ^ 54 - 1) * 2 ^ 2045) ≤ D * (2 * 2 ^ 1140) := by
    refine Nat.le_trans h ?_
    have := Nat.mul_le_mul_left 2 hW
    rw [Nat.mul_left_comm] at this
    exact this
  have h2 := Nat.le_of_mul_le_mul_left h1 hD
  exact absurd h2 (by decide +kernel)

theorem rb {r : UInt64} {neg : Bool} {W D : Nat} (R : Right r neg W D) (hD : 0 < D) (hW : W ≤ D * 2 ^ 1140) :
    ∃ v : Nat, Fin r ∧ val r = sgn neg v ∧ ∀ n : Nat, n < 2 ^ 53 → (n * 2 ^ 1054 * D ≤ W → n * 2 ^ 1054 ≤ v) ∧ (W ≤ n * 2 ^ 1054 * D → v ≤ n * 2 ^ 1054) := by
  obtain ⟨t, hr, hle, hinf, hnear⟩ := R
  have ht : t < infMag := by
    rcases Nat.lt_or_ge t infMag with h | h
    · exact h
    · exact (not_over hD hW (hinf.mp (Nat.le_antisymm hle h))).elim
  have hn : ∀ t', dist W (D * V t) ≤ dist W (D * V t') := fun t' => (hnear ht t').1
  refine ⟨V t, ?_, ?_, fun n hn53 => ?_⟩
  · obtain ⟨m, e, hd, _⟩ := decode_pack neg ht
    exact ⟨neg, m, e, by rw [hr]; exact hd⟩
  · rw [hr]; exact val_pack neg ht
  · obtain ⟨t', ht'⟩ := rep n hn53
    rw [← ht']
    constructor
    · intro h; rw [Nat.mul_comm] at h; exact core_lo hD hn t' h
    · intro h; rw [Nat.mul_comm] at h; exact core_hi hD hn t' h

/-- the sandwich, with signs -/
theorem rbi {r : UInt64} {neg : Bool} {W D : Nat} (R : Right r neg W D) (hD : 0 < D) (hW : W ≤ D * 2 ^ 1140) :
    Fin r ∧ ∀ k : Int, -(2 ^ 52) ≤ k → k ≤ 2 ^ 52 → (k * 2 ^ 1054 * D ≤ sgn neg W → k * 2 ^ 1054 ≤ val r) ∧ (sgn neg W ≤ k * 2 ^ 1054 * D → val r ≤ k * 2 ^ 1054) := by
  obtain ⟨v, hf, hv, hs⟩ := rb R hD hW
  refine ⟨hf, fun k hk1 hk2 => ?_⟩
  rw [hv]
  have hG : (0 : Int) < 2 ^ 1054 := by decide +kernel
  have hGn : ((2 ^ 1054 : Nat) : Int) = 2 ^ 1054 := by decide +kernel
  have hD' : (0 : Int) < (D : Int) := by omega
  have key : ∀ n : Nat, n < 2 ^ 53 → ((n : Int) * 2 ^ 1054 * D ≤ W → (n : Int) * 2 ^ 1054 ≤ v) ∧ ((W : Int) ≤ (n : Int) * 2 ^ 1054 * D → (v : Int) ≤ (n : Int) * 2 ^ 1054) := by
    intro n hn
    have h := hs n hn
    have e1 : ((n * 2 ^ 1054 : Nat) : Int) = (n : Int) * 2 ^ 1054 := by rw [Int.natCast_mul, hGn]
    have e2 : ((n * 2 ^ 1054 * D : Nat) : Int) = (n : Int) * 2 ^ 1054 * D := by rw [Int.natCast_mul, e1]
    rw [← e1, ← Int.natCast_mul]
    exact ⟨fun q => Int.ofNat_le.mpr (h.1 (Int.ofNat_le.mp q)), fun q => Int.ofNat_le.mpr (h.2 (Int.ofNat_le.mp q))⟩
  generalize hGe : (2 : Int) ^ 1054 = G at *
  rcases Int.lt_or_le k 0 with h0 | h0
  · obtain ⟨n, rfl⟩ : ∃ n : Nat, k = -(n : Int) := ⟨k.natAbs, by omega⟩
    have hn : n < 2 ^ 53 := by omega
    have hn0 : (0 : Int) < n := by omega
    have hp : (0 : Int) < (n : Int) * G := Int.mul_pos hn0 hG
    have hpD : (0 : Int) < (n : Int) * G * D := Int.mul_pos hp hD'
    obtain ⟨k1, k2⟩ := key n hn
    rw [Int.neg_mul, Int.neg_mul]
    cases neg with
    | false => simp only [sgn]; constructor <;> intro h <;> simp at h ⊢ <;> omega
    | true =>
      simp only [sgn, if_true]
      exact ⟨fun h => Int.neg_le_neg (k2 (by omega)), fun h => Int.neg_le_neg (k1 (by omega))⟩
  · obtain ⟨n, rfl⟩ : ∃ n : Nat, k = (n : Int) := ⟨k.toNat, by omega⟩
    have hn : n < 2 ^ 53 := by omega
    have hp : (0 : Int) ≤ (n : Int) * G := Int.mul_nonneg h0 (Int.le_of_lt hG)
    have hpD : (0 : Int) ≤ (n : Int) * G * D := Int.mul_nonneg hp (Int.le_of_lt hD')
    obtain ⟨k1, k2⟩ := key n hn
    cases neg with
    | false => simpa only [sgn] using ⟨k1, k2⟩
    | true =>
      simp only [sgn, if_true]
      refine ⟨fun h => ?_, fun h => by omega⟩
      have hW0 : (W : Int) = 0 := by omega
      have hz : (n : Int) * G * D = 0 := by omega
      have hz2 : (n : Int) * G = 0 := by
        rcases Int.mul_eq_zero.mp hz with h | h
        · exact h
        · omega
      have hv0 : (v : Int) ≤ (n : Int) * G := k2 (by omega)
      omega

/-- x is the number p/4 -/
def Fx (x : UInt64) (p : Int) : Prop := Fin x ∧ val x = p * 2 ^ 1072
/-- x is finite, and p/q rounded: on the right side of every multiple of 2^-20 -/
def Nr (x : UInt64) (p q : Int) : Prop := Fin x ∧ ∀ k : Int, -(2 ^ 52) ≤ k → k ≤ 2 ^ 52 → (k * q ≤ p * 2 ^ 20 → k * 2 ^ 1054 ≤ val x) ∧ (p * 2 ^ 20 ≤ k * q → val x ≤ k * 2 ^ 1054)

theorem e1072 : (2 : Int) ^ 1072 = 2 ^ 18 * 2 ^ 1054 := by decide +kernel
theorem e1074 : (2 : Int) ^ 1074 = 2 ^ 20 * 2 ^ 1054 := by decide +kernel
theorem e1074n : ((2 ^ 1074 : Nat) : Int) = 2 ^ 20 * 2 ^ 1054 := by decide +kernel
theorem pos1054 : (0 : Int) < 2 ^ 1054 := by decide +kernel

theorem sgn_dec (s : Int) : sgn (decide (s < 0)) s.natAbs = s := by
  unfold sgn
  by_cases h : s < 0
  · simp [h]; omega
  · simp [h]; omega

theorem natAbs_sgn (b : Bool) (m : Nat) : (sgn b m).natAbs = m := sgn_natAbs b m

/-- exact where the true value lies on the grid of quarters -/
theorem fx_exact {r : UInt64} {neg : Bool} {W D : Nat} (R : Right r neg W D) (hD : 0 < D) {p : Int} (h1 : -(2 ^ 34) ≤ p) (h2 : p ≤ 2 ^ 34) (hW : sgn neg W = p * 2 ^ 1072 * D) : Fx r p := by
  have hWn : W ≤ D * 2 ^ 1140 := by
    have e : (W : Int) = ((p * 2 ^ 1072 * D).natAbs : Nat) := by rw [← hW, natAbs_sgn]
    rw [Int.natAbs_mul, Int.natAbs_mul] at e
    have e' : W = p.natAbs * (2 ^ 1072 : Int).natAbs * D := by
      have := Int.ofNat.inj e
      simpa using this
    rw [e', Nat.mul_comm]
    refine Nat.mul_le_mul_left _ ?_
    have hp : p.natAbs ≤ 2 ^ 34 := by omega
    refine Nat.le_trans (Nat.mul_le_mul_right _ hp) ?_
    decide +kernel
  obtain ⟨hf, hs⟩ := rbi R hD hWn
  refine ⟨hf, ?_⟩
  have hb := hs (p * 2 ^ 18) (by omega) (by omega)
  have e : p * 2 ^ 18 * 2 ^ 1054 = p * 2 ^ 1072 := by rw [e1072, Int.mul_assoc]
  rw [e] at hb
  exact Int.le_antisymm (hb.2 (Int.le_of_eq hW)) (hb.1 (Int.le_of_eq hW.symm))

theorem fx_zero (b : Bool) : Fx (zero b) 0 := by
  cases b
  · exact ⟨⟨_, _, _, by with_unfolding_all rfl⟩, by decide +kernel⟩
  · exact ⟨⟨_, _, _, by with_unfolding_all rfl⟩, by decide +kernel⟩

theorem fx_add {x y : UInt64} {p q : Int} (hx : Fx x p) (hy : Fx y q) (h1 : -(2 ^ 34) ≤ p + q) (h2 : p + q ≤ 2 ^ 34) : Fx (add x y) (p + q) := by
  obtain ⟨⟨a, m, e, dx⟩, vx⟩ := hx
  obtain ⟨⟨b, k, f, dy⟩, vy⟩ := hy
  obtain ⟨hz, hn⟩ := add_right dx dy
  have hs : val x + val y = (p + q) * 2 ^ 1072 := by rw [vx, vy, Int.add_mul]
  by_cases h0 : val x + val y = 0
  · rw [hz h0]
    have : p + q = 0 := by
      rw [hs] at h0
      rcases Int.mul_eq_zero.mp h0 with h | h
      · exact h
      · exact absurd h (by decide +kernel)
    rw [this]
    exact fx_zero _
  · refine fx_exact (hn h0) (by decide) h1 h2 ?_
    rw [sgn_dec, hs]
    simp

theorem fx_sub {x y : UInt64} {p q : Int} (hx : Fx x p) (hy : Fx y q) (h1 : -(2 ^ 34) ≤ p - q) (h2 : p - q ≤ 2 ^ 34) : Fx (sub x y) (p - q) := by
  have hny : Fx (neg y) (-q) := by
    obtain ⟨⟨b, k, f, dy⟩, vy⟩ := hy
    exact ⟨⟨_, _, _, neg_decode dy⟩, by rw [neg_val dy, vy, Int.neg_mul]⟩
  unfold sub
  have := fx_add hx hny (by omega) (by omega)
  rwa [← Int.sub_eq_add_neg] at this

theorem fx_ofInt {n : Int} (h1 : -(2 ^ 32) ≤ n) (h2 : n ≤ 2 ^ 32) : Fx (ofInt n) (4 * n) := by
  refine fx_exact (ofInt_right n) (by decide) (by omega) (by omega) ?_
  rw [show n.natAbs * 2 ^ 1074 = (n.natAbs * 2 ^ 1074 : Nat) from rfl, sgn_mul, sgn_dec]
  have e : ((2 ^ 1074 : Nat) : Int) = 4 * 2 ^ 1072 := by decide +kernel
  rw [e]
  generalize (2 : Int) ^ 1072 = G
  rw [Int.mul_left_comm, Int.mul_assoc]
  simp [Int.mul_assoc]
end Mine
end

section -- FY
open PySem PySem.Float64 PySem.Flt
namespace Mine

theorem val_sgn {x : UInt64} {a : Bool} {m : Nat} {e : Int} (dx : decode x = .fin a m e) : val x = sgn a (val x).natAbs := by
  rw [val_natAbs dx, val_eq dx]

theorem fx_mul {x y : UInt64} {p q r : Int} (hx : Fx x p) (hy : Fx y q) (hr : p * q = 4 * r) (h1 : -(2 ^ 34) ≤ r) (h2 : r ≤ 2 ^ 34) : Fx (mul x y) r := by
  obtain ⟨⟨a, m, e, dx⟩, vx⟩ := hx
  obtain ⟨⟨b, k, f, dy⟩, vy⟩ := hy
  refine fx_exact (mul_right dx dy) (Nat.two_pow_pos _) h1 h2 ?_
  have e0 : sgn (a != b) ((val x).natAbs * (val y).natAbs) = val x * val y := by
    have ex := val_sgn dx
    have ey := val_sgn dy
    generalize (val x).natAbs = X at *
    generalize (val y).natAbs = Y at *
    rw [ex, ey]
    cases a <;> cases b <;> simp [sgn, Int.neg_mul, Int.mul_neg]
  have e1 : ((2 ^ 1074 : Nat) : Int) = 4 * 2 ^ 1072 := by decide +kernel
  rw [e0, vx, vy, e1]
  generalize (2 : Int) ^ 1072 = G
  calc p * G * (q * G) = (p * q) * (G * G) := by ac_rfl
    _ = 4 * r * (G * G) := by rw [hr]
    _ = r * G * (4 * G) := by ac_rfl

theorem val_pos_sign {y : UInt64} {b : Bool} {k : Nat} {f : Int} (dy : decode y = .fin b k f) (h : 0 < val y) : b = false ∧ k ≠ 0 := by
  rw [val_eq dy] at h
  constructor
  · cases b
    · rfl
    · exfalso; simp only [sgn, if_true] at h; omega
  · rintro rfl
    cases b <;> simp [sgn] at h

theorem nr_of {r : UInt64} {neg : Bool} {W D : Nat} {p q : Int} (R : Right r neg W D) {c : Int} (hc : 0 < c) (hq : 0 < q) (hD : (D : Int) = q * c) (hW : sgn neg W = p * c * 2 ^ 1074) (hb : p.natAbs ≤ 2 ^ 60) : Nr r p q := by
  have hD0 : 0 < D := by
    have : 0 < q * c := Int.mul_pos hq hc
    omega
  have hWn : W ≤ D * 2 ^ 1140 := by
    have e : W = (p * c * 2 ^ 1074).natAbs := by rw [← hW, natAbs_sgn]
    have e2 : D = q.natAbs * c.natAbs := by
      have : (D : Int).natAbs = (q * c).natAbs := by rw [hD]
      rw [Int.natAbs_mul] at this
      simpa using this
    rw [e, Int.natAbs_mul, Int.natAbs_mul, e2]
    have hp : p.natAbs * (2 ^ 1074 : Int).natAbs ≤ q.natAbs * 2 ^ 1140 := by
      have h1 : p.natAbs * (2 ^ 1074 : Int).natAbs ≤ 2 ^ 60 * (2 ^ 1074 : Int).natAbs := Nat.mul_le_mul_right _ hb
      have h2 : 2 ^ 60 * (2 ^ 1074 : Int).natAbs ≤ 1 * 2 ^ 1140 := by decide +kernel
      have h3 : 1 * 2 ^ 1140 ≤ q.natAbs * 2 ^ 1140 := Nat.mul_le_mul_right _ (by omega)
      exact Nat.le_trans h1 (Nat.le_trans h2 h3)
    generalize (2 ^ 1074 : Int).natAbs = G at *
    generalize 2 ^ 1140 = H at *
    have := Nat.mul_le_mul_left c.natAbs hp
    calc p.natAbs * c.natAbs * G = c.natAbs * (p.natAbs * G) := by ac_rfl
      _ ≤ c.natAbs * (q.natAbs * H) := this
      _ = q.natAbs * c.natAbs * H := by ac_rfl
  obtain ⟨hf, hs⟩ := rbi R hD0 hWn
  refine ⟨hf, fun k hk1 hk2 => ?_⟩
  obtain ⟨s1, s2⟩ := hs k hk1 hk2
  rw [hW, hD, e1074] at s1 s2
  have hG := pos1054
  generalize (2 : Int) ^ 1054 = G at *
  have hcG : 0 < c * G := Int.mul_pos hc hG
  refine ⟨fun h => s1 ?_, fun h => s2 ?_⟩
  · have := Int.mul_le_mul_of_nonneg_right h (Int.le_of_lt hcG)
    calc k * G * (q * c) = k * q * (c * G) := by ac_rfl
      _ ≤ p * 2 ^ 20 * (c * G) := this
      _ = p * c * (2 ^ 20 * G) := by ac_rfl
  · have := Int.mul_le_mul_of_nonneg_right h (Int.le_of_lt hcG)
    calc p * c * (2 ^ 20 * G) = p * 2 ^ 20 * (c * G) := by ac_rfl
      _ ≤ k * q * (c * G) := this
      _ = k * G * (q * c) := by ac_rfl

theorem nr_div {x y : UInt64} {p q : Int} (hx : Fx x p) (hy : Fx y q) (hq : 0 < q) (hb : p.natAbs ≤ 2 ^ 60) : Nr (div x y) p q := by
  obtain ⟨⟨a, m, e, dx⟩, vx⟩ := hx
  obtain ⟨⟨b, k, f, dy⟩, vy⟩ := hy
  have hG : (0 : Int) < 2 ^ 1072 := by decide +kernel
  have hpos : 0 < val y := by rw [vy]; exact Int.mul_pos hq hG
  obtain ⟨hb0, hk⟩ := val_pos_sign dy hpos
  subst hb0
  refine nr_of (div_right dx dy hk) hG hq ?_ ?_ hb
  · rw [Int.natAbs_of_nonneg (Int.le_of_lt hpos), vy]
  · have ea : (a != false) = a := by cases a <;> rfl
    have e1 : ((2 ^ 1074 : Nat) : Int) = 2 ^ 1074 := by decide +kernel
    rw [ea, sgn_mul, ← val_sgn dx, vx, e1]

theorem nr_ii {a b : Int} (hb : 0 < b) (ha : a.natAbs ≤ 2 ^ 60) : Nr (ofFrac (decide (a < 0) != decide (b < 0)) a.natAbs b.natAbs) a b := by
  have hn : 0 < b.natAbs := by omega
  have R : Right (ofFrac (decide (a < 0) != decide (b < 0)) a.natAbs b.natAbs) (decide (a < 0) != decide (b < 0)) (a.natAbs * 2 ^ 1074) b.natAbs := ofFrac_right hn rfl hn
  refine nr_of (c := 1) R (by decide) hb (by omega) ?_ ha
  have eb : decide (b < 0) = false := by simp; omega
  have ea : (decide (a < 0) != false) = decide (a < 0) := by cases decide (a < 0) <;> rfl
  have e1 : ((2 ^ 1074 : Nat) : Int) = 2 ^ 1074 := by decide +kernel
  rw [eb, ea, sgn_mul, sgn_dec, e1, Int.mul_one]

/-! ### floor, ceil, trunc -/
theorem two_pow_pos_int (n : Nat) : (0 : Int) < 2 ^ n := Int.pow_pos (by decide)
theorem nat_two_pow (n : Nat) : ((2 ^ n : Nat) : Int) = 2 ^ n := by simp

theorem floorOf_val {x : UInt64} {a : Bool} {m : Nat} {e : Int} (dx : decode x = .fin a m e) : floorOf a m e = val x / 2 ^ 1074 := by
  have he := decode_ge dx
  rw [val_eq dx, sgn_mul, nat_two_pow]
  unfold floorOf
  split
  · rename_i h
    have e1 : (e + 1074).toNat = e.toNat + 1074 := by omega
    rw [e1, Int.pow_add, ← Int.mul_assoc, Int.mul_ediv_cancel _ (Int.ne_of_gt (two_pow_pos_int 1074))]
  · rename_i h
    have e1 : (1074 : Nat) = (-e).toNat + (e + 1074).toNat := by omega
    have e2 : (2 : Int) ^ 1074 = 2 ^ (-e).toNat * 2 ^ (e + 1074).toNat := by rw [← Int.pow_add, ← e1]
    rw [e2, Int.mul_ediv_mul_of_pos_left _ _ (two_pow_pos_int _)]
    exact Int.fdiv_eq_ediv_of_nonneg _ (Int.le_of_lt (two_pow_pos_int _))

theorem floor_fin {x : UInt64} (h : Fin x) : toInt floorOf x = val x / 2 ^ 1074 := by
  obtain ⟨a, m, e, dx⟩ := h
  rw [toInt_fin dx, floorOf_val dx]
theorem ceil_fin {x : UInt64} (h : Fin x) : toInt ceilOf x = -((-val x) / 2 ^ 1074) := by
  obtain ⟨a, m, e, dx⟩ := h
  rw [toInt_fin dx]
  unfold ceilOf
  rw [floorOf_val (neg_decode dx), neg_val dx]
theorem trunc_fin {x : UInt64} (h : Fin x) (h0 : 0 ≤ val x) : toInt truncOf x = val x / 2 ^ 1074 := by
  obtain ⟨a, m, e, dx⟩ := h
  rw [toInt_fin dx]
  unfold truncOf
  cases a with
  | false => exact floorOf_val dx
  | true =>
    have hz : val x = 0 := by
      have h1 := val_eq dx
      simp only [sgn, if_true] at h1
      omega
    simp only [if_true]
    unfold ceilOf
    rw [floorOf_val (neg_decode dx), neg_val dx, hz]
    decide +kernel

theorem div_between {v c : Int} (h1 : c * 2 ^ 1074 ≤ v) (h2 : v < (c + 1) * 2 ^ 1074) : v / 2 ^ 1074 = c := by
  have hG := two_pow_pos_int 1074
  generalize (2 : Int) ^ 1074 = G at *
  exact Int.le_antisymm (Int.lt_add_one_iff.mp (Int.ediv_lt_of_lt_mul hG h2)) (Int.le_ediv_of_mul_le hG h1)

theorem fx_q {x : UInt64} {p : Int} (h : Fx x p) : val x / 2 ^ 1074 = p / 4 := by
  rw [h.2, show (2 : Int) ^ 1074 = 4 * 2 ^ 1072 from by decide +kernel]
  exact Int.mul_ediv_mul_of_pos_left _ _ (two_pow_pos_int 1072)
theorem fx_nonneg {x : UInt64} {p : Int} (h : Fx x p) (hp : 0 ≤ p) : 0 ≤ val x := by
  rw [h.2]; exact Int.mul_nonneg hp (Int.le_of_lt (two_pow_pos_int 1072))
theorem fx_floor {x : UInt64} {p : Int} (h : Fx x p) : toInt floorOf x = p / 4 := by rw [floor_fin h.1, fx_q h]
theorem fx_trunc {x : UInt64} {p : Int} (h : Fx x p) (hp : 0 ≤ p) : toInt truncOf x = p / 4 := by rw [trunc_fin h.1 (fx_nonneg h hp), fx_q h]
theorem fx_neg {x : UInt64} {p : Int} (h : Fx x p) : Fx (neg x) (-p) := by
  obtain ⟨⟨b, k, f, dy⟩, vy⟩ := h
  exact ⟨⟨_, _, _, neg_decode dy⟩, by rw [neg_val dy, vy, Int.neg_mul]⟩
theorem fx_ceil {x : UInt64} {p : Int} (h : Fx x p) : toInt ceilOf x = -((-p) / 4) := by
  rw [ceil_fin h.1]
  have h2 := fx_q (fx_neg h)
  obtain ⟨⟨b, k, f, dy⟩, vy⟩ := h
  rw [neg_val dy] at h2
  rw [h2]

theorem nr_q {x : UInt64} {p q : Int} (h : Nr x p q) (hq : 0 < q) (hq2 : q ≤ 2 ^ 20) (h1 : -(2 ^ 31) ≤ p / q) (h2 : p / q < 2 ^ 31) : val x / 2 ^ 1074 = p / q := by
  obtain ⟨_, hs⟩ := h
  have m0 : p / q * q ≤ p := Int.ediv_mul_le p (Int.ne_of_gt hq)
  have m1 : p < (p / q + 1) * q := Int.lt_ediv_add_one_mul_self p hq
  generalize hc : p / q = c at *
  have lo := (hs (c * 2 ^ 20) (by omega) (by omega)).1 (by
    have := Int.mul_le_mul_of_nonneg_right m0 (show (0 : Int) ≤ 2 ^ 20 by decide)
    rw [Int.mul_right_comm]; exact this)
  have hi := (hs ((c + 1) * 2 ^ 20 - 1) (by omega) (by omega)).2 (by
    rw [Int.sub_mul, Int.mul_right_comm, Int.one_mul]
    generalize (c + 1) * q = z at *
    omega)
  refine div_between ?_ ?_
  · rw [e1074, ← Int.mul_assoc]; exact lo
  · refine Int.lt_of_le_of_lt hi ?_
    rw [e1074, ← Int.mul_assoc, Int.sub_mul, Int.one_mul]
    have := pos1054
    generalize (c + 1) * 2 ^ 20 * 2 ^ 1054 = z at *
    generalize (2 : Int) ^ 1054 = G at *
    omega
theorem nr_floor {x : UInt64} {p q : Int} (h : Nr x p q) (hq : 0 < q) (hq2 : q ≤ 2 ^ 20) (h1 : -(2 ^ 31) ≤ p / q) (h2 : p / q < 2 ^ 31) : toInt floorOf x = p / q := by
  rw [floor_fin h.1, nr_q h hq hq2 h1 h2]
theorem nr_nonneg {x : UInt64} {p q : Int} (h : Nr x p q) (hp : 0 ≤ p) : 0 ≤ val x := by
  have := (h.2 0 (by decide) (by decide)).1 (by omega)
  simpa using this
theorem nr_trunc {x : UInt64} {p q : Int} (h : Nr x p q) (hp : 0 ≤ p) (hq : 0 < q) (hq2 : q ≤ 2 ^ 20) (h1 : -(2 ^ 31) ≤ p / q) (h2 : p / q < 2 ^ 31) : toInt truncOf x = p / q := by
  rw [trunc_fin h.1 (nr_nonneg h hp), nr_q h hq hq2 h1 h2]
theorem nr_neg {x : UInt64} {p q : Int} (h : Nr x p q) : Nr (neg x) (-p) q := by
  obtain ⟨⟨b, k, f, dy⟩, hs⟩ := h
  refine ⟨⟨_, _, _, neg_decode dy⟩, fun k h1 h2 => ?_⟩
  rw [neg_val dy]
  obtain ⟨s1, s2⟩ := hs (-k) (by omega) (by omega)
  rw [Int.neg_mul, Int.neg_mul] at s1 s2
  rw [Int.neg_mul]
  generalize (2 : Int) ^ 1054 = G at *
  generalize p * 2 ^ 20 = z at *
  exact ⟨fun h => by have := s2 (by omega); omega, fun h => by have := s1 (by omega); omega⟩
theorem nr_ceil {x : UInt64} {p q : Int} (h : Nr x p q) (hq : 0 < q) (hq2 : q ≤ 2 ^ 20) (h1 : -(2 ^ 31) ≤ (-p) / q) (h2 : (-p) / q < 2 ^ 31) : toInt ceilOf x = -((-p) / q) := by
  rw [ceil_fin h.1]
  have h3 := nr_q (nr_neg h) hq hq2 h1 h2
  obtain ⟨⟨b, k, f, dy⟩, vy⟩ := h
  rw [neg_val dy] at h3
  rw [h3]

/-! ### tests -/
theorem fin_isNaN {x : UInt64} (h : Fin x) : isNaN x = false := by
  obtain ⟨a, m, e, dx⟩ := h
  unfold isNaN; rw [dx]
theorem fin_isInf {x : UInt64} (h : Fin x) : isInf x = false := by
  obtain ⟨a, m, e, dx⟩ := h
  unfold isInf; rw [dx]
theorem fin_isZero {x : UInt64} (h : Fin x) : isZero x = decide (val x = 0) := by
  obtain ⟨a, m, e, dx⟩ := h
  unfold isZero; rw [dx]
  have hv := val_natAbs dx
  cases m with
  | zero =>
    have : val x = 0 := by rw [Nat.zero_mul] at hv; omega
    simp [this]
  | succ m =>
    have hp : 0 < (m + 1) * 2 ^ (e + 1074).toNat := Nat.mul_pos (by omega) (Nat.two_pow_pos _)
    have : val x ≠ 0 := by omega
    simp [this]
theorem fx_isZero {x : UInt64} {p : Int} (h : Fx x p) (hp : p ≠ 0) : isZero x = false := by
  rw [fin_isZero h.1, h.2]
  have := two_pow_pos_int 1072
  simp only [decide_eq_false_iff_not]
  intro hz
  rcases Int.mul_eq_zero.mp hz with q | q
  · exact hp q
  · rw [q] at this; exact absurd this (by decide)

theorem fx_cmpInt {x : UInt64} {p : Int} (h : Fx x p) (n : Int) : cmpInt x n = some (compare p (4 * n)) := by
  obtain ⟨⟨a, m, e, dx⟩, vx⟩ := h
  rw [cmpInt_right dx, vx, show (2 : Int) ^ 1074 = 4 * 2 ^ 1072 from by decide +kernel]
  have hG := two_pow_pos_int 1072
  generalize (2 : Int) ^ 1072 = G at *
  congr 1
  rw [← Int.mul_assoc, Int.mul_comm n 4]
  rcases Int.lt_trichotomy p (4 * n) with h | h | h
  · rw [Int.compare_eq_lt.mpr h, Int.compare_eq_lt.mpr (Int.mul_lt_mul_of_pos_right h hG)]
  · rw [h]; simp
  · rw [Int.compare_eq_gt.mpr h, Int.compare_eq_gt.mpr (Int.mul_lt_mul_of_pos_right h hG)]
theorem fx_lt {x : UInt64} {p : Int} (h : Fx x p) (n : Int) : (cmpInt x n == some .lt) = decide (p < 4 * n) := by
  rw [fx_cmpInt h]
  rcases Int.lt_trichotomy p (4 * n) with h | h | h
  · rw [Int.compare_eq_lt.mpr h]; simp [h]
  · rw [h]; simp
  · rw [Int.compare_eq_gt.mpr h]
    have : ¬ p < 4 * n := by omega
    simp [this]
theorem fx_eq {x : UInt64} {p : Int} (h : Fx x p) (n : Int) : (cmpInt x n == some .eq) = decide (p = 4 * n) := by
  rw [fx_cmpInt h]
  rcases Int.lt_trichotomy p (4 * n) with h | h | h
  · rw [Int.compare_eq_lt.mpr h]
    have : ¬ p = 4 * n := by omega
    simp [this]
  · rw [h]; simp
  · rw [Int.compare_eq_gt.mpr h]
    have : ¬ p = 4 * n := by omega
    simp [this]

/-! ### the remainder -/
theorem fmod_right {x y : UInt64} {a b : Bool} {m k : Nat} {e f : Int} (dx : decode x = .fin a m e) (dy : decode y = .fin b k f) (hk : k ≠ 0) :
    Right (fmod x y) a ((val x).natAbs % (val y).natAbs) 1 := by
  have he := decode_ge dx
  have hf := decode_ge dy
  have hm : fmod x y = ofBin a ((m * 2 ^ (e - min e f).toNat) % (k * 2 ^ (f - min e f).toNat)) (min e f) := by
    unfold fmod
    rw [dx, dy]
    simp only
    rw [if_neg (by simpa using hk)]
    rfl
  have eW : (val x).natAbs % (val y).natAbs = (m * 2 ^ (e - min e f).toNat) % (k * 2 ^ (f - min e f).toNat) * 2 ^ (min e f + 1074).toNat := by
    rw [val_natAbs dx, val_natAbs dy, ← Nat.mul_mod_mul_right]
    rw [Nat.mul_assoc, Nat.mul_assoc, ← Nat.pow_add, ← Nat.pow_add]
    have e1 : (e - min e f).toNat + (min e f + 1074).toNat = (e + 1074).toNat := by omega
    have e2 : (f - min e f).toNat + (min e f + 1074).toNat = (f + 1074).toNat := by omega
    rw [e1, e2]
  rw [hm, eW]
  generalize (m * 2 ^ (e - min e f).toNat) % (k * 2 ^ (f - min e f).toNat) = N
  unfold ofBin
  refine ofFrac_right (shift_pos _ _ _ (by decide)) ?_ (by decide)
  have := shift_one N (min e f) 1074 (by omega)
  rw [Nat.mul_one]
  exact this
end Mine
end

section -- FZ
open PySem PySem.Float64 PySem.Flt
namespace Mine

theorem emod_le_self {p q : Int} (hp : 0 ≤ p) (hq : 0 < q) : p % q ≤ p := by
  have h1 : 0 ≤ p / q := Int.ediv_nonneg hp (Int.le_of_lt hq)
  have h2 : 0 ≤ q * (p / q) := Int.mul_nonneg (Int.le_of_lt hq) h1
  have h3 := Int.emod_def p q
  omega

theorem fx_fmod {x y : UInt64} {p q : Int} (hx : Fx x p) (hy : Fx y q) (hp : 0 ≤ p) (hq : 0 < q) (hp2 : p ≤ 2 ^ 34) : Fx (fmod x y) (p % q) := by
  have hxn := fx_nonneg hx hp
  obtain ⟨⟨a, m, e, dx⟩, vx⟩ := hx
  obtain ⟨⟨b, k, f, dy⟩, vy⟩ := hy
  have hG := two_pow_pos_int 1072
  have hpos : 0 < val y := by rw [vy]; exact Int.mul_pos hq hG
  obtain ⟨_, hk⟩ := val_pos_sign dy hpos
  have hr0 : 0 ≤ p % q := Int.emod_nonneg _ (Int.ne_of_gt hq)
  have hr1 : p % q ≤ p := emod_le_self hp hq
  refine fx_exact (fmod_right dx dy hk) (by decide) (by omega) (by omega) ?_
  have e1 : (((val x).natAbs % (val y).natAbs : Nat) : Int) = p % q * 2 ^ 1072 := by
    rw [Int.natCast_emod, Int.natAbs_of_nonneg hxn, Int.natAbs_of_nonneg (Int.le_of_lt hpos), vx, vy, Int.mul_comm p, Int.mul_comm q, Int.mul_emod_mul_of_pos _ _ hG, Int.mul_comm]
  cases a with
  | false =>
    have : sgn false ((val x).natAbs % (val y).natAbs) = (((val x).natAbs % (val y).natAbs : Nat) : Int) := rfl
    rw [this, e1]
    simp
  | true =>
    have hz : val x = 0 := by
      have h1 := val_eq dx
      simp only [sgn, if_true] at h1
      omega
    have hp0 : p = 0 := by
      rw [vx] at hz
      rcases Int.mul_eq_zero.mp hz with h | h
      · exact h
      · rw [h] at hG; exact absurd hG (by decide)
    rw [hz, hp0]
    simp [sgn]

theorem lt_zero_of_nonneg {x : UInt64} (h : Fin x) (h0 : 0 ≤ val x) : lt x (zero false) = false := by
  obtain ⟨a, m, e, dx⟩ := h
  obtain ⟨⟨b, k, f, dz⟩, vz⟩ := fx_zero false
  have vz0 : val (zero false) = 0 := by rw [vz, Int.zero_mul]
  unfold lt
  rw [cmp_right dx dz, vz0]
  rcases Int.lt_or_le 0 (val x) with h | h
  · rw [Int.compare_eq_gt.mpr h]; rfl
  · have : val x = 0 := by omega
    rw [this]; rfl

theorem fx_mod {x y : UInt64} {p q : Int} (hx : Fx x p) (hy : Fx y q) (hp : 0 ≤ p) (hq : 0 < q) (hp2 : p ≤ 2 ^ 34) : Fx (divmod x y).2 (p % q) := by
  have hm := fx_fmod hx hy hp hq hp2
  have hr0 : 0 ≤ p % q := Int.emod_nonneg _ (Int.ne_of_gt hq)
  unfold divmod
  simp only
  by_cases hz : isZero (fmod x y) = true
  · rw [if_pos hz]
    have h0 : p % q = 0 := by
      by_cases h : p % q = 0
      · exact h
      · rw [fx_isZero hm h] at hz; exact absurd hz (by decide)
    rw [h0]
    simp only
    have : copysign (zero false) y = zero (signBit y) := by
      unfold copysign
      rw [fin_isNaN (fx_zero false).1]
      rfl
    rw [this]
    exact fx_zero _
  · rw [if_neg hz]
    rw [lt_zero_of_nonneg hy.1 (fx_nonneg hy (Int.le_of_lt hq)), lt_zero_of_nonneg hm.1 (fx_nonneg hm hr0)]
    exact hm

/-! ### literals -/
def fxb (x : UInt64) (p : Int) : Bool := match decode x with
  | .fin a m e => sgn a (m * 2 ^ (e + 1074).toNat) == p * 2 ^ 1072
  | _ => false
theorem fx_of {x : UInt64} {p : Int} (h : fxb x p = true) : Fx x p := by
  unfold fxb at h
  split at h
  · rename_i a m e hd
    exact ⟨⟨a, m, e, hd⟩, by rw [val_eq hd]; exact beq_iff_eq.mp h⟩
  · exact absurd h (by decide)

theorem fx_greg : Fx 4700144277945057280 6885702 := fx_of (by decide +kernel)
theorem fx_arm : Fx 4701007892789067776 7690006 := fx_of (by decide +kernel)
theorem fx_sark : Fx 4701801086275551232 8468842 := fx_of (by decide +kernel)
theorem fx_copt : Fx 4700589253736792064 7300118 := fx_of (by decide +kernel)
theorem fx_isl : Fx 4701119295650791424 7793758 := fx_of (by decide +kernel)
theorem fx_law : Fx 4701801921646690304 8470398 := fx_of (by decide +kernel)
end Mine
end

section -- FW
open PySem PySem.Float64 PySem.Flt
namespace Mine

theorem nr_ext {x : UInt64} {p q : Int} (h : Nr x p q) (hq : 0 < q) (h1 : -(2 ^ 31) ≤ p) (h2 : p ≤ 2 ^ 31) (k : Int) : (k * q ≤ p * 2 ^ 20 → k * 2 ^ 1054 ≤ val x) ∧ (p * 2 ^ 20 ≤ k * q → val x ≤ k * 2 ^ 1054) := by
  have hG := pos1054
  have hs := h.2
  have big : (2 ^ 52 : Int) * 1 ≤ 2 ^ 52 * q := Int.mul_le_mul_of_nonneg_left (by omega) (by decide)
  have mono : ∀ a b : Int, a ≤ b → a * 2 ^ 1054 ≤ b * 2 ^ 1054 := fun a b hab => Int.mul_le_mul_of_nonneg_right hab (Int.le_of_lt hG)
  rcases Int.lt_or_le (2 ^ 52) k with c | c
  · constructor
    · intro hk
      exfalso
      have : 2 ^ 52 * q ≤ k * q := Int.mul_le_mul_of_nonneg_right (Int.le_of_lt c) (Int.le_of_lt hq)
      omega
    · intro hk
      exact Int.le_trans ((hs (2 ^ 52) (by decide) (by decide)).2 (by omega)) (mono _ _ (Int.le_of_lt c))
  · rcases Int.lt_or_le k (-(2 ^ 52)) with d | d
    · constructor
      · intro hk
        exact Int.le_trans (mono _ _ (Int.le_of_lt d)) ((hs (-(2 ^ 52)) (by decide) (by decide)).1 (by rw [Int.neg_mul]; omega))
      · intro hk
        exfalso
        have : k * q ≤ -(2 ^ 52) * q := Int.mul_le_mul_of_nonneg_right (Int.le_of_lt d) (Int.le_of_lt hq)
        rw [Int.neg_mul] at this
        omega
    · exact hs k d c

theorem nr_addi {x : UInt64} {p q n : Int} (h : Nr x p q) (hq : 0 < q) (h1 : -(2 ^ 31) ≤ p) (h2 : p ≤ 2 ^ 31) (hn1 : -(2 ^ 30) ≤ n) (hn2 : n ≤ 2 ^ 30) : Nr (add x (ofInt n)) (p + n * q) q := by
  have hs := nr_ext h hq h1 h2
  have hG := pos1054
  obtain ⟨⟨a, m, e, dx⟩, hr0⟩ := h
  obtain ⟨⟨b, k, f, dy⟩, vy⟩ := fx_ofInt (n := n) (by omega) (by omega)
  obtain ⟨hz, hr⟩ := add_right dx dy
  have vy2 : val (ofInt n) = n * 2 ^ 20 * 2 ^ 1054 := by
    rw [vy, e1072]
    generalize (2 : Int) ^ 1054 = G
    rw [Int.mul_assoc, Int.mul_assoc, Int.mul_left_comm, ← Int.mul_assoc 4, show (4 : Int) * 2 ^ 18 = 2 ^ 20 from by decide]
  have main : ∀ k : Int, (k * q ≤ (p + n * q) * 2 ^ 20 → k * 2 ^ 1054 ≤ val x + val (ofInt n)) ∧ ((p + n * q) * 2 ^ 20 ≤ k * q → val x + val (ofInt n) ≤ k * 2 ^ 1054) := by
    intro k
    obtain ⟨s1, s2⟩ := hs (k - n * 2 ^ 20)
    have e1 : (k - n * 2 ^ 20) * q = k * q - n * q * 2 ^ 20 := by rw [Int.sub_mul, Int.mul_right_comm]
    have e2 : (p + n * q) * 2 ^ 20 = p * 2 ^ 20 + n * q * 2 ^ 20 := Int.add_mul _ _ _
    rw [e1, Int.sub_mul] at s1 s2
    rw [vy2, e2]
    generalize (2 : Int) ^ 1054 = G at *
    generalize n * 2 ^ 20 * G = X at *
    generalize n * q = Y at *
    generalize k * q = Z at *
    generalize k * G = U at *
    exact ⟨fun hh => by have := s1 (by omega); omega, fun hh => by have := s2 (by omega); omega⟩
  by_cases h0 : val x + val (ofInt n) = 0
  · rw [hz h0]
    have v0 : val (zero (a && b)) = 0 := by rw [(fx_zero _).2, Int.zero_mul]
    refine ⟨(fx_zero _).1, fun k _ _ => ?_⟩
    have := main k
    rw [h0] at this
    rw [v0]
    exact this
  · have hW : (val x + val (ofInt n)).natAbs ≤ 1 * 2 ^ 1140 := by
      have u1 := (hr0 (2 ^ 52) (by decide) (by decide)).2 (by
        have : (2 ^ 52 : Int) * 1 ≤ 2 ^ 52 * q := Int.mul_le_mul_of_nonneg_left (by omega) (by decide)
        omega)
      have u2 := (hr0 (-(2 ^ 52)) (by decide) (by decide)).1 (by
        have : (2 ^ 52 : Int) * 1 ≤ 2 ^ 52 * q := Int.mul_le_mul_of_nonneg_left (by omega) (by decide)
        rw [Int.neg_mul]; omega)
      have v1 : n * 2 ^ 20 * 2 ^ 1054 ≤ 2 ^ 50 * 2 ^ 1054 := Int.mul_le_mul_of_nonneg_right (by omega) (Int.le_of_lt hG)
      have v2 : -(2 ^ 50) * 2 ^ 1054 ≤ n * 2 ^ 20 * 2 ^ 1054 := Int.mul_le_mul_of_nonneg_right (by omega) (Int.le_of_lt hG)
      rw [vy2]
      have big : ((1 * 2 ^ 1140 : Nat) : Int) = 2 ^ 86 * 2 ^ 1054 := by decide +kernel
      rw [Int.neg_mul] at u2 v2
      generalize n * 2 ^ 20 * 2 ^ 1054 = X at *
      generalize (1 * 2 ^ 1140 : Nat) = H at *
      generalize (2 : Int) ^ 1054 = G at *
      omega
    obtain ⟨hf, hb⟩ := rbi (hr h0) (by decide) hW
    refine ⟨hf, fun k k1 k2 => ?_⟩
    obtain ⟨b1, b2⟩ := hb k k1 k2
    obtain ⟨m1, m2⟩ := main k
    rw [sgn_dec] at b1 b2
    have e1 : (((1 : Nat) : Int)) = 1 := rfl
    rw [e1, Int.mul_one] at b1 b2
    exact ⟨fun hh => b1 (m1 hh), fun hh => b2 (m2 hh)⟩
end Mine
end

section -- FJ
open PySem PySem.Float64 PySem.Flt
namespace Mine

theorem fx_half : Fx 4602678819172646912 2 := fx_of (by decide +kernel)
theorem fx_295 : Fx 4628996729495093248 118 := fx_of (by decide +kernel)
theorem fx_365 : Fx 4645133162144333824 1461 := fx_of (by decide +kernel)

def finb (x : UInt64) : Bool := match decode x with | .fin .. => true | _ => false
theorem fin_of {x : UInt64} (h : finb x = true) : Fin x := by
  unfold finb at h
  split at h
  · rename_i a m e hd; exact ⟨a, m, e, hd⟩
  · exact absurd h (by decide)

/-- 122.1 -/
theorem fin_1221 : Fin 4638292440600962662 := fin_of (by decide +kernel)
theorem lo_1221 : 128031129 * 2 ^ 1054 ≤ val 4638292440600962662 := by decide +kernel
theorem hi_1221 : val 4638292440600962662 ≤ 128031130 * 2 ^ 1054 := by decide +kernel

theorem jul_c {b : Int} (h1 : 1000 ≤ b) (h2 : b ≤ 2 ^ 28) : Fin (div (sub (ofInt b) 4638292440600962662) 4645133162144333824) ∧ toInt floorOf (div (sub (ofInt b) 4638292440600962662) 4645133162144333824) = (4 * b - 489) / 1461 := by
  have hG := pos1054
  obtain ⟨⟨a, m, e, dx⟩, vx⟩ := fx_ofInt (n := b) (by omega) (by omega)
  obtain ⟨a', k', f', dl⟩ := fin_1221
  have vx2 : val (ofInt b) = b * 2 ^ 20 * 2 ^ 1054 := by
    rw [vx, e1072]
    generalize (2 : Int) ^ 1054 = G
    rw [Int.mul_assoc, Int.mul_assoc, Int.mul_left_comm, ← Int.mul_assoc 4, show (4 : Int) * 2 ^ 18 = 2 ^ 20 from by decide]
  obtain ⟨_, hr⟩ := add_right dx (neg_decode dl)
  have vn : val (neg 4638292440600962662) = -val 4638292440600962662 := neg_val dl
  have l1 := lo_1221
  have l2 := hi_1221
  have s1 : (b * 2 ^ 20 - 128031130) * 2 ^ 1054 ≤ val (ofInt b) + val (neg 4638292440600962662) := by
    rw [vx2, vn, Int.sub_mul]; omega
  have s2 : val (ofInt b) + val (neg 4638292440600962662) ≤ (b * 2 ^ 20 - 128031129) * 2 ^ 1054 := by
    rw [vx2, vn, Int.sub_mul]; omega
  have p1 : (1 : Int) * 2 ^ 1054 ≤ (b * 2 ^ 20 - 128031130) * 2 ^ 1054 := Int.mul_le_mul_of_nonneg_right (by omega) (Int.le_of_lt hG)
  have p2 : (b * 2 ^ 20 - 128031129) * 2 ^ 1054 ≤ 2 ^ 50 * 2 ^ 1054 := Int.mul_le_mul_of_nonneg_right (by omega) (Int.le_of_lt hG)
  have big : ((1 * 2 ^ 1140 : Nat) : Int) = 2 ^ 86 * 2 ^ 1054 := by decide +kernel
  have hne : val (ofInt b) + val (neg 4638292440600962662) ≠ 0 := by
    generalize (2 : Int) ^ 1054 = G at *
    omega
  obtain ⟨hf, hb⟩ := rbi (hr hne) (by decide) (by
    generalize (1 * 2 ^ 1140 : Nat) = H at *
    generalize (2 : Int) ^ 1054 = G at *
    omega)
  have z1 := (hb (b * 2 ^ 20 - 128031130) (by omega) (by omega)).1 (by
    rw [sgn_dec, show (((1 : Nat) : Int)) = 1 from rfl, Int.mul_one]; exact s1)
  have z2 := (hb (b * 2 ^ 20 - 128031129) (by omega) (by omega)).2 (by
    rw [sgn_dec, show (((1 : Nat) : Int)) = 1 from rfl, Int.mul_one]; exact s2)
  have hsub : sub (ofInt b) 4638292440600962662 = add (ofInt b) (neg 4638292440600962662) := by unfold sub; rfl
  rw [hsub]
  generalize add (ofInt b) (neg 4638292440600962662) = z at *
  obtain ⟨az, mz, ez, dz⟩ := hf
  obtain ⟨⟨ay, my, ey, dy⟩, vy⟩ := fx_365
  have hG2 : (0 : Int) < 2 ^ 1072 := by decide +kernel
  have hy0 : 0 < val 4645133162144333824 := by rw [vy]; exact Int.mul_pos (by decide) hG2
  obtain ⟨by0, ky0⟩ := val_pos_sign dy hy0
  subst by0
  have R := div_right dz dy ky0
  have hzp : 0 < val z := by
    generalize (2 : Int) ^ 1054 = G at *
    omega
  have hzn : ((val z).natAbs : Int) = val z := Int.natAbs_of_nonneg (Int.le_of_lt hzp)
  have hyn : ((val 4645133162144333824).natAbs : Int) = 1461 * 2 ^ 1072 := by rw [Int.natAbs_of_nonneg (Int.le_of_lt hy0), vy]
  have hW : (val z).natAbs * 2 ^ 1074 ≤ (val 4645133162144333824).natAbs * 2 ^ 1140 := by
    have c1 : (val z).natAbs ≤ 2 ^ 1104 := by
      have : (((2 : Nat) ^ 1104 : Nat) : Int) = 2 ^ 50 * 2 ^ 1054 := by decide +kernel
      generalize (2 : Nat) ^ 1104 = H at *
      generalize (2 : Int) ^ 1054 = G at *
      omega
    refine Nat.le_trans (Nat.mul_le_mul_right _ c1) ?_
    have c2 : (val 4645133162144333824).natAbs = 1461 * 2 ^ 1072 := by
      have := congrArg Int.toNat hyn
      rw [Int.toNat_natCast] at this
      rw [this]; decide +kernel
    rw [c2]; decide +kernel
  have hD : 0 < (val 4645133162144333824).natAbs := by omega
  obtain ⟨hq, hs⟩ := rbi R hD hW
  have az0 : az = false := by
    cases az
    · rfl
    · exfalso
      have := val_eq dz
      simp only [sgn, if_true] at this
      omega
  subst az0
  have eW : sgn (false != false) ((val z).natAbs * 2 ^ 1074) = val z * 4 * 2 ^ 1072 := by
    have : sgn (false != false) ((val z).natAbs * 2 ^ 1074) = (((val z).natAbs * 2 ^ 1074 : Nat) : Int) := rfl
    rw [this, Int.natCast_mul, hzn, show ((2 ^ 1074 : Nat) : Int) = 4 * 2 ^ 1072 from by decide +kernel, Int.mul_assoc]
  refine ⟨hq, ?_⟩
  have m0 : (4 * b - 489) / 1461 * 1461 ≤ 4 * b - 489 := Int.ediv_mul_le _ (by decide)
  have m1 : 4 * b - 489 < ((4 * b - 489) / 1461 + 1) * 1461 := Int.lt_ediv_add_one_mul_self _ (by decide)
  generalize (4 * b - 489) / 1461 = c at *
  obtain ⟨lo, _⟩ := hs (c * 2 ^ 20) (by omega) (by omega)
  obtain ⟨_, hi⟩ := hs ((c + 1) * 2 ^ 20 - 1) (by omega) (by omega)
  rw [eW, hyn] at lo hi
  have lo' := lo (by
    have t : c * 2 ^ 20 * 1461 * 2 ^ 1054 ≤ 4 * (b * 2 ^ 20 - 128031130) * 2 ^ 1054 := Int.mul_le_mul_of_nonneg_right (by omega) (Int.le_of_lt hG)
    have t2 : c * 2 ^ 20 * 1461 * 2 ^ 1054 ≤ val z * 4 := by rw [Int.mul_assoc 4] at t; omega
    have := Int.mul_le_mul_of_nonneg_right t2 (Int.le_of_lt hG2)
    calc c * 2 ^ 20 * 2 ^ 1054 * (1461 * 2 ^ 1072) = c * 2 ^ 20 * 1461 * 2 ^ 1054 * 2 ^ 1072 := by
          generalize (2 : Int) ^ 1054 = G
          generalize (2 : Int) ^ 1072 = H
          generalize c * 2 ^ 20 = u
          ac_rfl
      _ ≤ val z * 4 * 2 ^ 1072 := this)
  have hi' := hi (by
    have t : 4 * (b * 2 ^ 20 - 128031129) * 2 ^ 1054 ≤ ((c + 1) * 2 ^ 20 - 1) * 1461 * 2 ^ 1054 := Int.mul_le_mul_of_nonneg_right (by omega) (Int.le_of_lt hG)
    have t2 : val z * 4 ≤ ((c + 1) * 2 ^ 20 - 1) * 1461 * 2 ^ 1054 := by rw [Int.mul_assoc 4] at t; omega
    have := Int.mul_le_mul_of_nonneg_right t2 (Int.le_of_lt hG2)
    calc val z * 4 * 2 ^ 1072 ≤ ((c + 1) * 2 ^ 20 - 1) * 1461 * 2 ^ 1054 * 2 ^ 1072 := this
      _ = ((c + 1) * 2 ^ 20 - 1) * 2 ^ 1054 * (1461 * 2 ^ 1072) := by
          generalize (2 : Int) ^ 1054 = G
          generalize (2 : Int) ^ 1072 = H
          generalize (c + 1) * 2 ^ 20 - 1 = u
          ac_rfl)
  rw [floor_fin hq]
  refine div_between ?_ ?_
  · rw [e1074, ← Int.mul_assoc]; exact lo'
  · refine Int.lt_of_le_of_lt hi' ?_
    rw [e1074, ← Int.mul_assoc, Int.sub_mul, Int.one_mul]
    generalize (c + 1) * 2 ^ 20 * 2 ^ 1054 = zz at *
    generalize (2 : Int) ^ 1054 = G at *
    omega

/-- 30.6001: few values -/
theorem jul_e_all : (List.range 520).all (fun r => finb (div (ofInt (r : Nat)) 4629306380116972641) && toInt floorOf (div (ofInt (r : Nat)) 4629306380116972641) == ((r * 10000 / 306001 : Nat) : Int)) = true := by decide +kernel
theorem jul_e {r : Int} (h0 : 0 ≤ r) (h1 : r < 520) : Fin (div (ofInt r) 4629306380116972641) ∧ toInt floorOf (div (ofInt r) 4629306380116972641) = r * 10000 / 306001 := by
  obtain ⟨n, rfl⟩ : ∃ n : Nat, r = (n : Int) := ⟨r.toNat, by omega⟩
  have h := List.all_eq_true.mp jul_e_all n (List.mem_range.mpr (by omega))
  rw [Bool.and_eq_true, beq_iff_eq] at h
  exact ⟨fin_of h.1, by rw [h.2]; omega⟩
theorem jul_f_all : (List.range 32).all (fun r => finb (mul 4629306380116972641 (ofInt (r : Nat))) && toInt floorOf (mul 4629306380116972641 (ofInt (r : Nat))) == ((r * 306001 / 10000 : Nat) : Int)) = true := by decide +kernel
theorem jul_f {r : Int} (h0 : 0 ≤ r) (h1 : r < 32) : Fin (mul 4629306380116972641 (ofInt r)) ∧ toInt floorOf (mul 4629306380116972641 (ofInt r)) = r * 306001 / 10000 := by
  obtain ⟨n, rfl⟩ : ∃ n : Nat, r = (n : Int) := ⟨r.toNat, by omega⟩
  have h := List.all_eq_true.mp jul_f_all n (List.mem_range.mpr (by omega))
  rw [Bool.and_eq_true, beq_iff_eq] at h
  exact ⟨fin_of h.1, by rw [h.2]; omega⟩
end Mine
end

section -- ST
open PySem PySem.W PySem.Calls PyProof.Rows PySem.Spec PySem.Flt
namespace Mine

/-! ## steps of the walk over doubles -/
theorem not_over_small {n : Int} (h1 : -(2 ^ 32) ≤ n) (h2 : n ≤ 2 ^ 32) : ¬ Over n := by
  unfold Over
  intro h
  have : (2 : Nat) ^ 33 < 2 ^ 1024 - 2 ^ 970 := by decide +kernel
  omega
theorem finite_of_fin {x : UInt64} (h : Fin x) : Float64.isFinite x = true := by
  obtain ⟨a, m, e, dx⟩ := h
  unfold Float64.isFinite; rw [dx]
section
variable {prog : Program} {w : World} {A : Around} {E : Value → Shared → Prop} {s : Shared} {x y : UInt64} {p q n : Int} {t u : Tok} {Q : Value → Shared → Prop}

theorem s_add_ff (hx : Fx x p) (hy : Fx y q) (h1 : -(2 ^ 34) ≤ p + q) (h2 : p + q ≤ 2 ^ 34)
    (k : ∀ z r, r = p + q → Fx z r → ∀ t, Q (.float z t) { s with toks := s.toks + 1 }) :
    wpAny (model prog w) A (binaryOp .Add (.float x t) (.float y u)) Q E s := add_float (k _ _ rfl (fx_add hx hy h1 h2) _)

theorem s_iadd_ff (hx : Fx x p) (hy : Fx y q) (h1 : -(2 ^ 34) ≤ p + q) (h2 : p + q ≤ 2 ^ 34)
    (k : ∀ z r, r = p + q → Fx z r → ∀ t, Q (.float z t) { s with toks := s.toks + 1 }) :
    wpAny (model prog w) A (inplaceOp .Add (.float x t) (.float y u)) Q E s := iadd_float (k _ _ rfl (fx_add hx hy h1 h2) _)

theorem s_sub_ff (hx : Fx x p) (hy : Fx y q) (h1 : -(2 ^ 34) ≤ p - q) (h2 : p - q ≤ 2 ^ 34)
    (k : ∀ z r, r = p - q → Fx z r → ∀ t, Q (.float z t) { s with toks := s.toks + 1 }) :
    wpAny (model prog w) A (binaryOp .Sub (.float x t) (.float y u)) Q E s := sub_float (k _ _ rfl (fx_sub hx hy h1 h2) _)

theorem s_add_fi (hA : A.handled = none) (hx : Fx x p) (n1 : -(2 ^ 32) ≤ n) (n2 : n ≤ 2 ^ 32) (h1 : -(2 ^ 34) ≤ p + 4 * n) (h2 : p + 4 * n ≤ 2 ^ 34)
    (k : ∀ z r, r = p + 4 * n → Fx z r → ∀ t, Q (.float z t) { s with toks := s.toks + 1 }) :
    wpAny (model prog w) A (binaryOp .Add (.float x t) (.int n u)) Q E s := add_fi_sharp hA (fun hb => absurd hb (not_over_small n1 n2)) (fun _ => k _ _ rfl (fx_add hx (fx_ofInt n1 n2) h1 h2) _)

theorem s_add_if (hA : A.handled = none) (hx : Fx x p) (n1 : -(2 ^ 32) ≤ n) (n2 : n ≤ 2 ^ 32) (h1 : -(2 ^ 34) ≤ 4 * n + p) (h2 : 4 * n + p ≤ 2 ^ 34)
    (k : ∀ z r, r = 4 * n + p → Fx z r → ∀ t, Q (.float z t) { s with toks := s.toks + 1 }) :
    wpAny (model prog w) A (binaryOp .Add (.int n u) (.float x t)) Q E s := add_if_sharp hA (fun hb => absurd hb (not_over_small n1 n2)) (fun _ => k _ _ rfl (fx_add (fx_ofInt n1 n2) hx h1 h2) _)

theorem s_sub_fi (hA : A.handled = none) (hx : Fx x p) (n1 : -(2 ^ 32) ≤ n) (n2 : n ≤ 2 ^ 32) (h1 : -(2 ^ 34) ≤ p - 4 * n) (h2 : p - 4 * n ≤ 2 ^ 34)
    (k : ∀ z r, r = p - 4 * n → Fx z r → ∀ t, Q (.float z t) { s with toks := s.toks + 1 }) :
    wpAny (model prog w) A (binaryOp .Sub (.float x t) (.int n u)) Q E s := sub_fi_sharp hA (fun hb => absurd hb (not_over_small n1 n2)) (fun _ => k _ _ rfl (fx_sub hx (fx_ofInt n1 n2) h1 h2) _)

theorem s_sub_if (hA : A.handled = none) (hx : Fx x p) (n1 : -(2 ^ 32) ≤ n) (n2 : n ≤ 2 ^ 32) (h1 : -(2 ^ 34) ≤ 4 * n - p) (h2 : 4 * n - p ≤ 2 ^ 34)
    (k : ∀ z r, r = 4 * n - p → Fx z r → ∀ t, Q (.float z t) { s with toks := s.toks + 1 }) :
    wpAny (model prog w) A (binaryOp .Sub (.int n u) (.float x t)) Q E s := sub_if_sharp hA (fun hb => absurd hb (not_over_small n1 n2)) (fun _ => k _ _ rfl (fx_sub (fx_ofInt n1 n2) hx h1 h2) _)

theorem s_mul_fi (hA : A.handled = none) (hx : Fx x p) (n1 : -(2 ^ 32) ≤ n) (n2 : n ≤ 2 ^ 32) (h1 : -(2 ^ 34) ≤ p * n) (h2 : p * n ≤ 2 ^ 34)
    (k : ∀ z r, r = p * n → Fx z r → ∀ t, Q (.float z t) { s with toks := s.toks + 1 }) :
    wpAny (model prog w) A (binaryOp .Mult (.float x t) (.int n u)) Q E s := mul_fi_sharp hA (fun hb => absurd hb (not_over_small n1 n2)) (fun _ => k _ _ rfl (fx_mul hx (fx_ofInt n1 n2) (by rw [Int.mul_left_comm]) h1 h2) _)

theorem s_mul_if (hA : A.handled = none) (hx : Fx x p) (n1 : -(2 ^ 32) ≤ n) (n2 : n ≤ 2 ^ 32) (h1 : -(2 ^ 34) ≤ n * p) (h2 : n * p ≤ 2 ^ 34)
    (k : ∀ z r, r = n * p → Fx z r → ∀ t, Q (.float z t) { s with toks := s.toks + 1 }) :
    wpAny (model prog w) A (binaryOp .Mult (.int n u) (.float x t)) Q E s := mul_if_sharp hA (fun hb => absurd hb (not_over_small n1 n2)) (fun _ => k _ _ rfl (fx_mul (fx_ofInt n1 n2) hx (by rw [Int.mul_assoc]) h1 h2) _)

theorem s_div_ff (hA : A.handled = none) (hx : Fx x p) (hy : Fx y q) (hq : 0 < q) (h1 : -(2 ^ 34) ≤ p) (h2 : p ≤ 2 ^ 34)
    (k : ∀ z, Nr z (p) (q) → ∀ t, Q (.float z t) { s with toks := s.toks + 1 }) :
    wpAny (model prog w) A (binaryOp .Div (.float x t) (.float y u)) Q E s := truediv_float_or hA (fun hz => absurd hz (by rw [fx_isZero hy (by omega)]; decide)) (fun _ => k _ (nr_div hx hy hq (by omega)) _)

theorem s_div_fi (hA : A.handled = none) (hx : Fx x p) (hq : 0 < n) (n2 : n ≤ 2 ^ 32) (h1 : -(2 ^ 34) ≤ p) (h2 : p ≤ 2 ^ 34)
    (k : ∀ z, Nr z (p) (4 * n) → ∀ t, Q (.float z t) { s with toks := s.toks + 1 }) :
    wpAny (model prog w) A (binaryOp .Div (.float x t) (.int n u)) Q E s := truediv_fi hA (fun hb => absurd hb (not_over_small (by omega) n2)) (fun hz => absurd hz (by omega)) (fun _ _ => k _ (nr_div hx (fx_ofInt (by omega) n2) (by omega) (by omega)) _)

theorem s_div_ii (hA : A.handled = none) (hq : 0 < q) (h1 : -(2 ^ 34) ≤ p) (h2 : p ≤ 2 ^ 34)
    (k : ∀ z, Nr z (p) (q) → ∀ t, Q (.float z t) { s with toks := s.toks + 1 }) :
    wpAny (model prog w) A (binaryOp .Div (.int p t) (.int q u)) Q E s := div_ii_fits hA (by have : (2 : Nat) ^ 35 < 2 ^ 1023 := (by decide +kernel); omega) (fun hz => absurd hz (by omega)) (fun _ _ => k _ (nr_ii hq (by omega)) _)

theorem s_mod_fi (hA : A.handled = none) (hx : Fx x p) (hp : 0 ≤ p) (hp2 : p ≤ 2 ^ 34) (hq : 0 < n) (n2 : n ≤ 2 ^ 32)
    (k : ∀ z r, r = p % (4 * n) → Fx z r → ∀ t, Q (.float z t) { s with toks := s.toks + 1 }) :
    wpAny (model prog w) A (binaryOp .Mod (.float x t) (.int n u)) Q E s := mod_fi hA (fun hb => absurd hb (not_over_small (by omega) n2)) (fun hz => absurd hz (by omega)) (fun _ _ => k _ _ rfl (fx_mod hx (fx_ofInt (by omega) n2) hp (by omega) hp2) _)

theorem s_add_fi_nr (hA : A.handled = none) (hx : Nr x p q) (hq : 0 < q) (h1 : -(2 ^ 31) ≤ p) (h2 : p ≤ 2 ^ 31) (n1 : -(2 ^ 30) ≤ n) (n2 : n ≤ 2 ^ 30)
    (k : ∀ z r, r = p + n * q → Nr z r q → ∀ t, Q (.float z t) { s with toks := s.toks + 1 }) :
    wpAny (model prog w) A (binaryOp .Add (.float x t) (.int n u)) Q E s := add_fi_sharp hA (fun hb => absurd hb (not_over_small (by omega) (by omega))) (fun _ => k _ _ rfl (nr_addi hx hq h1 h2 n1 n2) _)

theorem s_floor_fx (hA : A.handled = none) (hx : Fx x p)
    (k : ∀ c, c = p / 4 → ∀ t, Q (.int c t) { s with toks := s.toks + 1 }) :
    wpAny (model prog w) A (call (.builtin "math.floor") [.float x t]) Q E s := call_floor_float hA (fun hz => absurd hz (by rw [fin_isNaN hx.1]; decide)) (fun hz => absurd hz (by rw [fin_isInf hx.1]; decide)) (fun _ => by rw [fx_floor hx]; exact k _ rfl _)

theorem s_floor_nr (hA : A.handled = none) (hx : Nr x p q) (hq : 0 < q) (hq2 : q ≤ 2 ^ 20) (h1 : -(2 ^ 31) ≤ p / q) (h2 : p / q < 2 ^ 31)
    (k : ∀ c, c = p / q → ∀ t, Q (.int c t) { s with toks := s.toks + 1 }) :
    wpAny (model prog w) A (call (.builtin "math.floor") [.float x t]) Q E s := call_floor_float hA (fun hz => absurd hz (by rw [fin_isNaN hx.1]; decide)) (fun hz => absurd hz (by rw [fin_isInf hx.1]; decide)) (fun _ => by rw [nr_floor hx hq hq2 h1 h2]; exact k _ rfl _)

theorem s_ceil_fx (hA : A.handled = none) (hx : Fx x p)
    (k : ∀ c, c = -((-p) / 4) → ∀ t, Q (.int c t) { s with toks := s.toks + 1 }) :
    wpAny (model prog w) A (call (.builtin "math.ceil") [.float x t]) Q E s := call_ceil_float hA (fun hz => absurd hz (by rw [fin_isNaN hx.1]; decide)) (fun hz => absurd hz (by rw [fin_isInf hx.1]; decide)) (fun _ => by rw [fx_ceil hx]; exact k _ rfl _)

theorem s_ceil_nr (hA : A.handled = none) (hx : Nr x p q) (hq : 0 < q) (hq2 : q ≤ 2 ^ 20) (h1 : -(2 ^ 31) ≤ (-p) / q) (h2 : (-p) / q < 2 ^ 31)
    (k : ∀ c, c = -((-p) / q) → ∀ t, Q (.int c t) { s with toks := s.toks + 1 }) :
    wpAny (model prog w) A (call (.builtin "math.ceil") [.float x t]) Q E s := call_ceil_float hA (fun hz => absurd hz (by rw [fin_isNaN hx.1]; decide)) (fun hz => absurd hz (by rw [fin_isInf hx.1]; decide)) (fun _ => by rw [nr_ceil hx hq hq2 h1 h2]; exact k _ rfl _)

theorem s_trunc_fx (hA : A.handled = none) (hx : Fx x p) (hp : 0 ≤ p)
    (k : ∀ c, c = p / 4 → ∀ t, Q (.int c t) { s with toks := s.toks + 1 }) :
    wpAny (model prog w) A (call (.builtin "math.trunc") [.float x t]) Q E s := call_trunc_float hA (fun hz => absurd hz (by rw [fin_isNaN hx.1]; decide)) (fun hz => absurd hz (by rw [fin_isInf hx.1]; decide)) (fun _ => by rw [fx_trunc hx hp]; exact k _ rfl _)

theorem s_trunc_nr (hA : A.handled = none) (hx : Nr x p q) (hp : 0 ≤ p) (hq : 0 < q) (hq2 : q ≤ 2 ^ 20) (h1 : -(2 ^ 31) ≤ p / q) (h2 : p / q < 2 ^ 31)
    (k : ∀ c, c = p / q → ∀ t, Q (.int c t) { s with toks := s.toks + 1 }) :
    wpAny (model prog w) A (call (.builtin "math.trunc") [.float x t]) Q E s := call_trunc_float hA (fun hz => absurd hz (by rw [fin_isNaN hx.1]; decide)) (fun hz => absurd hz (by rw [fin_isInf hx.1]; decide)) (fun _ => by rw [nr_trunc hx hp hq hq2 h1 h2]; exact k _ rfl _)

theorem s_floor_of {c : Int} (hA : A.handled = none) (hx : Fin x ∧ toInt Float64.floorOf x = c)
    (k : ∀ c', c' = c → ∀ t, Q (.int c' t) { s with toks := s.toks + 1 }) :
    wpAny (model prog w) A (call (.builtin "math.floor") [.float x t]) Q E s := call_floor_float hA (fun hz => absurd hz (by rw [fin_isNaN hx.1]; decide)) (fun hz => absurd hz (by rw [fin_isInf hx.1]; decide)) (fun _ => by rw [hx.2]; exact k _ rfl _)

theorem s_int_fx (hA : A.handled = none) (hx : Fx x p) (hp : 0 ≤ p)
    (k : ∀ c, c = p / 4 → ∀ t, Q (.int c t) { s with toks := s.toks + 1 }) :
    wpAny (model prog w) A (call (.type "int") [.float x t]) Q E s := call_int_float3 hA (fun hz => absurd hz (by rw [fin_isNaN hx.1]; decide)) (fun hz => absurd hz (by rw [fin_isInf hx.1]; decide)) (fun _ => by rw [fx_trunc hx hp]; exact k _ rfl _)

theorem s_lt_fi (hx : Fx x p)
    (k : ∀ b, b = decide (p < 4 * n) → Q (.bool b) s) :
    wpAny (model prog w) A (compareOp .Lt (.float x t) (.int n u)) Q E s := lt_fi (by rw [fx_lt hx]; exact k _ rfl)

theorem s_eq_fi (hx : Fx x p)
    (k : ∀ b, b = decide (p = 4 * n) → Q (.bool b) s) :
    wpAny (model prog w) A (compareOp .Eq (.float x t) (.int n u)) Q E s := eq_fi (by rw [fx_eq hx]; exact k _ rfl)

end
end Mine
end

section -- CT
open PySem PySem.W PySem.Calls PyProof.Rows PySem.Spec PySem.Flt
namespace Mine

/-- a call of the def at f, with these arguments, from any frame: it comes back with a value as Post says -/
def Claim (f : Addr) (dn un0 : Nat) (vs : List Value) (Post : List (Addr × Obj) → Value → List (Addr × Obj) → Prop) : Prop :=
  ∀ (w : World) (loose : List Str) (mean : ExcName → Option Value) (mg mb : Str → Option Value) (news : List (Addr × Obj))
    (dp un : Nat) (gd : Option (List Code)) (cn : Str) (cs : Scope) (a : Addr) (ccd : Value) (cl : List (Str × Addr)) (outer : List Env) (A₀ : Around) (base h₀ : Heap) (L : Addr) (m : Str → Option Value) (s : Shared) (Q E : Value → Shared → Prop),
    Below A₀ base outer h₀ → Fr h₀ L s.heap m → (hd.heap_39 w.params).In h₀ → News h₀ L s.heap news → Top hd.view_39 loose mean mg mb h₀ → cs.kind = .function →
    dp + dn < recursionLimit → un + un0 < cLine →
    (∀ (v : Value) (news' : List (Addr × Obj)) (h' : Heap) (tk' : Nat), Post news v news' → Fr h₀ L h' m → News h₀ L h' news' → Q v { s with heap := h', toks := tk' }) →
    wpAny (model PySem.Challenge.rw_ak5008_01.row.prog w) (ktrTop dp un gd cn cs L a ccd cl outer) (call (.ref f) vs) Q E s

theorem Claim.use {f : Addr} {dn un0 : Nat} {vs : List Value} {Post : List (Addr × Obj) → Value → List (Addr × Obj) → Prop} (C : Claim f dn un0 vs Post)
    {w : World} {loose : List Str} {mean : ExcName → Option Value} {mg mb : Str → Option Value} {news : List (Addr × Obj)}
    {dp un : Nat} {gd : Option (List Code)} {cn : Str} {cs : Scope} {a : Addr} {ccd : Value} {cl : List (Str × Addr)} {outer : List Env} {A₀ : Around} {base h₀ : Heap} {L : Addr} {m : Str → Option Value} {s : Shared} {Q E : Value → Shared → Prop}
    (B : Below A₀ base outer h₀) (F : Fr h₀ L s.heap m) (X : (hd.heap_39 w.params).In h₀) (N : News h₀ L s.heap news) (T : Top hd.view_39 loose mean mg mb h₀) (hk : cs.kind = .function)
    (hd : dp + dn < recursionLimit) (hu : un + un0 < cLine)
    (ret : ∀ (v : Value) (news' : List (Addr × Obj)) (h' : Heap) (tk' : Nat), Post news v news' → Fr h₀ L h' m → News h₀ L h' news' → Q v { s with heap := h', toks := tk' }) :
    wpAny (model PySem.Challenge.rw_ak5008_01.row.prog w) (ktrTop dp un gd cn cs L a ccd cl outer) (call (.ref f) vs) Q E s :=
  C _ _ _ _ _ _ _ _ _ _ _ _ _ _ _ _ _ _ _ _ _ _ _ B F X N T hk hd hu ret

/-- the same value comes back, the ledger as it was -/
abbrev Gives (R : Tok → Value) : List (Addr × Obj) → Value → List (Addr × Obj) → Prop := fun news v news' => (∃ t, v = R t) ∧ news = news'
abbrev GivesB (b : Bool) : List (Addr × Obj) → Value → List (Addr × Obj) → Prop := fun news v news' => v = .bool b ∧ news = news'
abbrev GivesF (p : Int) : List (Addr × Obj) → Value → List (Addr × Obj) → Prop := fun news v news' => (∃ x t, v = .float x t ∧ Fx x p) ∧ news = news'

section
variable {prog : Program} {w : World} {A : Around} {E : Value → Shared → Prop} {s : Shared} {K : Frag} {h₀ : Heap} {L : Addr} {m : Str → Option Value}
theorem in_tup_K {a : Addr} {x : Int} {u : Tok} {items : Array Value} {ns : List Int} {Q : Value → Shared → Prop} (X : K.In h₀) (F : Fr h₀ L s.heap m)
    (ho : K.lookup a = some { cls := .type "tuple", data := .seq items }) (hi : IntsAre items.toList ns)
    (h : ∀ b, b = ns.any (· == x) → Q (.bool b) s) : wpAny (model prog w) A (compareOp .In (.int x u) (.ref a)) Q E s :=
  in_tuple_ints ⟨_, F.keep _ _ (X _ _ ho), rfl, _, rfl⟩ hi (h _ rfl)
end
end Mine
end

section -- C1
open PySem PySem.W PySem.Calls PyProof.Rows PySem.Spec PySem.Flt
namespace Mine
set_option maxRecDepth 100000 in
set_option maxHeartbeats 8000000 in
theorem c_isleap (y : Int) (u : Tok) : Claim 380 2 16 [.int y u] (GivesB (gleap y)) := by
  unfold Claim
  k_fill
  intro w loose mean mg mb news dp un gd cn cs a ccd cl outer A₀ base h₀ L m s Q E B F X N T hk hd hu hret
  refine wpAny_call ?_
  k_dflt cell_enter
  k_steps
  all_goals (refine hret _ news _ _ ⟨?_, rfl⟩ (by k_asm) (by first | k_asm | (refine' cb_drop ?cbN ?cbS; (case cbN => assumption); (case cbS => kcj_all))))
  all_goals (simp only [Int.fmod_eq_emod_of_nonneg, Int.reduceLE, gleap] at *; simp_all)
end Mine
end

section -- C2
open PySem PySem.W PySem.Calls PyProof.Rows PySem.Spec PySem.Flt
namespace Mine
local macro_rules | `(tactic| ktr_rel) => `(tactic| first | with_reducible assumption | exact fx_half | exact fx_greg | exact fx_arm | exact fx_sark | exact fx_copt | exact fx_isl | exact fx_law | exact fx_295 | exact fx_365)
local macro_rules | `(tactic| walk_at "binaryOp Add float float") => `(tactic| (refine s_add_ff (by ktr_rel) (by ktr_rel) (by omega) (by omega) ?_; intro z r e f t))
local macro_rules | `(tactic| walk_at "inplaceOp Add float float") => `(tactic| (refine s_iadd_ff (by ktr_rel) (by ktr_rel) (by omega) (by omega) ?_; intro z r e f t))
local macro_rules | `(tactic| walk_at "binaryOp Sub float float") => `(tactic| (refine s_sub_ff (by ktr_rel) (by ktr_rel) (by omega) (by omega) ?_; intro z r e f t))
local macro_rules | `(tactic| walk_at "binaryOp Add float int") => `(tactic| first
  | (refine s_add_fi rfl (by ktr_rel) (by omega) (by omega) (by omega) (by omega) ?_; intro z r e f t)
  | (refine s_add_fi_nr rfl (by with_reducible assumption) (by omega) (by omega) (by omega) (by omega) (by omega) ?_; intro z r e f t))
local macro_rules | `(tactic| walk_at "binaryOp Add int float") => `(tactic| (refine s_add_if rfl (by ktr_rel) (by omega) (by omega) (by omega) (by omega) ?_; intro z r e f t))
local macro_rules | `(tactic| walk_at "binaryOp Sub float int") => `(tactic| (refine s_sub_fi rfl (by ktr_rel) (by omega) (by omega) (by omega) (by omega) ?_; intro z r e f t))
local macro_rules | `(tactic| walk_at "binaryOp Sub int float") => `(tactic| (refine s_sub_if rfl (by ktr_rel) (by omega) (by omega) (by omega) (by omega) ?_; intro z r e f t))
local macro_rules | `(tactic| walk_at "binaryOp Mult float int") => `(tactic| (refine s_mul_fi rfl (by ktr_rel) (by omega) (by omega) (by omega) (by omega) ?_; intro z r e f t))
local macro_rules | `(tactic| walk_at "binaryOp Mult int float") => `(tactic| (refine s_mul_if rfl (by ktr_rel) (by omega) (by omega) (by omega) (by omega) ?_; intro z r e f t))
local macro_rules | `(tactic| walk_at "binaryOp Div float float") => `(tactic| (refine s_div_ff rfl (by ktr_rel) (by ktr_rel) (by omega) (by omega) (by omega) ?_; intro z f t))
local macro_rules | `(tactic| walk_at "binaryOp Div float int") => `(tactic| (refine s_div_fi rfl (by ktr_rel) (by omega) (by omega) (by omega) (by omega) ?_; intro z f t))
local macro_rules | `(tactic| walk_at "binaryOp Div int int") => `(tactic| (refine s_div_ii rfl (by omega) (by omega) (by omega) ?_; intro z f t))
local macro_rules | `(tactic| walk_at "binaryOp Mod float int") => `(tactic| (refine s_mod_fi rfl (by ktr_rel) (by omega) (by omega) (by omega) (by omega) ?_; intro z r e f t))
local macro_rules | `(tactic| walk_at "call builtin:math.floor") => `(tactic| first
  | ((with_reducible show wpAny _ _ (call _ [Value.float _ _]) _ _ _); refine s_floor_fx rfl (by ktr_rel) ?_; intro c e t)
  | ((with_reducible show wpAny _ _ (call _ [Value.float _ _]) _ _ _); refine s_floor_nr rfl (by with_reducible assumption) (by omega) (by omega) (by omega) (by omega) ?_; intro c e t))
local macro_rules | `(tactic| walk_at "call builtin:math.ceil") => `(tactic| first
  | ((with_reducible show wpAny _ _ (call _ [Value.float _ _]) _ _ _); refine s_ceil_fx rfl (by ktr_rel) ?_; intro c e t)
  | ((with_reducible show wpAny _ _ (call _ [Value.float _ _]) _ _ _); refine s_ceil_nr rfl (by with_reducible assumption) (by omega) (by omega) (by omega) (by omega) ?_; intro c e t))
local macro_rules | `(tactic| walk_at "call builtin:math.trunc") => `(tactic| first
  | ((with_reducible show wpAny _ _ (call _ [Value.float _ _]) _ _ _); refine s_trunc_fx rfl (by ktr_rel) (by omega) ?_; intro c e t)
  | ((with_reducible show wpAny _ _ (call _ [Value.float _ _]) _ _ _); refine s_trunc_nr rfl (by with_reducible assumption) (by omega) (by omega) (by omega) (by omega) (by omega) ?_; intro c e t))
local macro_rules | `(tactic| walk_at "call type:int") => `(tactic| ((with_reducible show wpAny _ _ (call _ [Value.float _ _]) _ _ _); refine s_int_fx rfl (by ktr_rel) (by omega) ?_; intro c e t))
local macro_rules | `(tactic| walk_at "compareOp Lt float int") => `(tactic| (refine s_lt_fi (by ktr_rel) ?_; intro b e))
local macro_rules | `(tactic| walk_at "compareOp Eq float int") => `(tactic| (refine s_eq_fi (by ktr_rel) ?_; intro b e))
local macro_rules | `(tactic| walk_at "eval Call") => `(tactic| k_dflt (refine Call_ ?_))
local macro_rules | `(tactic| walk_at "compareOp In int ref") => `(tactic| (k_here; (with_unfolding_all refine' in_tup_K ?k1 ?k2 ?k3 ?k4 ?_); (case k1 => k_asm); (case k2 => k_asm); (case k3 => k_is); (case k4 => repeat constructor); intro b e))
local macro_rules | `(tactic| walk_at "call ref") => `(tactic| first
  | ((with_reducible show wpAny _ _ (call (Value.ref 380) _) _ _ _); (with_unfolding_all refine' Claim.use (c_isleap _ _) ?k1 ?k2 ?k3 ?k4 ?k5 ?k6 ?k7 ?k8 ?_); (case k1 => k_asm); (case k2 => k_asm); (case k3 => k_asm); (case k4 => k_asm); (case k5 => k_asm); (case k6 => first | exact rfl | assumption); (case k7 => ktr_room); (case k8 => ktr_units); (intro v9 n9 h9 tk9 p9 F9 N9; obtain ⟨e9, e8⟩ := p9; subst e9; subst e8); (try dsimp only); (try k_fold)))
set_option maxRecDepth 100000 in
set_option maxHeartbeats 8000000 in
theorem c_legal (y m : Int) (u u2 u3 : Tok) (hm1 : 1 ≤ m) (hm2 : m ≤ 12) : Claim 408 4 32 [.int y u, .int m u2, .int 1 u3] (GivesB true) := by
  unfold Claim
  k_fill
  intro w loose mean mg mb news dp un gd cn cs a ccd cl outer A₀ base h₀ L m s Q E B F X N T hk hd hu hret
  refine wpAny_call ?_
  k_dflt cell_enter
  k_steps
  all_goals (refine hret _ news _ _ ⟨rfl, rfl⟩ (by k_asm) (by first | k_asm | (refine' cb_drop ?cbN ?cbS; (case cbN => assumption); (case cbS => kcj_all))))
end Mine
end

section -- C3
open PySem PySem.W PySem.Calls PyProof.Rows PySem.Spec PySem.Flt
namespace Mine
local macro_rules | `(tactic| walk_at "none 0") => `(tactic| skip)
local macro_rules | `(tactic| ktr_rel) => `(tactic| first | with_reducible assumption | exact fx_half | exact fx_greg | exact fx_arm | exact fx_sark | exact fx_copt | exact fx_isl | exact fx_law | exact fx_295 | exact fx_365)
local macro_rules | `(tactic| walk_at "binaryOp Add float float") => `(tactic| (refine s_add_ff (by ktr_rel) (by ktr_rel) (by omega) (by omega) ?_; intro z r e f t))
local macro_rules | `(tactic| walk_at "inplaceOp Add float float") => `(tactic| (refine s_iadd_ff (by ktr_rel) (by ktr_rel) (by omega) (by omega) ?_; intro z r e f t))
local macro_rules | `(tactic| walk_at "binaryOp Sub float float") => `(tactic| (refine s_sub_ff (by ktr_rel) (by ktr_rel) (by omega) (by omega) ?_; intro z r e f t))
local macro_rules | `(tactic| walk_at "binaryOp Add float int") => `(tactic| first
  | (refine s_add_fi rfl (by ktr_rel) (by omega) (by omega) (by omega) (by omega) ?_; intro z r e f t)
  | (refine s_add_fi_nr rfl (by with_reducible assumption) (by omega) (by omega) (by omega) (by omega) (by omega) ?_; intro z r e f t))
local macro_rules | `(tactic| walk_at "binaryOp Add int float") => `(tactic| (refine s_add_if rfl (by ktr_rel) (by omega) (by omega) (by omega) (by omega) ?_; intro z r e f t))
local macro_rules | `(tactic| walk_at "binaryOp Sub float int") => `(tactic| (refine s_sub_fi rfl (by ktr_rel) (by omega) (by omega) (by omega) (by omega) ?_; intro z r e f t))
local macro_rules | `(tactic| walk_at "binaryOp Sub int float") => `(tactic| (refine s_sub_if rfl (by ktr_rel) (by omega) (by omega) (by omega) (by omega) ?_; intro z r e f t))
local macro_rules | `(tactic| walk_at "binaryOp Mult float int") => `(tactic| (refine s_mul_fi rfl (by ktr_rel) (by omega) (by omega) (by omega) (by omega) ?_; intro z r e f t))
local macro_rules | `(tactic| walk_at "binaryOp Mult int float") => `(tactic| (refine s_mul_if rfl (by ktr_rel) (by omega) (by omega) (by omega) (by omega) ?_; intro z r e f t))
local macro_rules | `(tactic| walk_at "binaryOp Div float float") => `(tactic| (refine s_div_ff rfl (by ktr_rel) (by ktr_rel) (by omega) (by omega) (by omega) ?_; intro z f t))
local macro_rules | `(tactic| walk_at "binaryOp Div float int") => `(tactic| (refine s_div_fi rfl (by ktr_rel) (by omega) (by omega) (by omega) (by omega) ?_; intro z f t))
local macro_rules | `(tactic| walk_at "binaryOp Div int int") => `(tactic| (refine s_div_ii rfl (by omega) (by omega) (by omega) ?_; intro z f t))
local macro_rules | `(tactic| walk_at "binaryOp Mod float int") => `(tactic| (refine s_mod_fi rfl (by ktr_rel) (by omega) (by omega) (by omega) (by omega) ?_; intro z r e f t))
local macro_rules | `(tactic| walk_at "call builtin:math.floor") => `(tactic| first
  | ((with_reducible show wpAny _ _ (call _ [Value.float _ _]) _ _ _); refine s_floor_fx rfl (by ktr_rel) ?_; intro c e t)
  | ((with_reducible show wpAny _ _ (call _ [Value.float _ _]) _ _ _); refine s_floor_nr rfl (by with_reducible assumption) (by omega) (by omega) (by omega) (by omega) ?_; intro c e t))
local macro_rules | `(tactic| walk_at "call builtin:math.ceil") => `(tactic| first
  | ((with_reducible show wpAny _ _ (call _ [Value.float _ _]) _ _ _); refine s_ceil_fx rfl (by ktr_rel) ?_; intro c e t)
  | ((with_reducible show wpAny _ _ (call _ [Value.float _ _]) _ _ _); refine s_ceil_nr rfl (by with_reducible assumption) (by omega) (by omega) (by omega) (by omega) ?_; intro c e t))
local macro_rules | `(tactic| walk_at "call builtin:math.trunc") => `(tactic| first
  | ((with_reducible show wpAny _ _ (call _ [Value.float _ _]) _ _ _); refine s_trunc_fx rfl (by ktr_rel) (by omega) ?_; intro c e t)
  | ((with_reducible show wpAny _ _ (call _ [Value.float _ _]) _ _ _); refine s_trunc_nr rfl (by with_reducible assumption) (by omega) (by omega) (by omega) (by omega) (by omega) ?_; intro c e t))
local macro_rules | `(tactic| walk_at "call type:int") => `(tactic| ((with_reducible show wpAny _ _ (call _ [Value.float _ _]) _ _ _); refine s_int_fx rfl (by ktr_rel) (by omega) ?_; intro c e t))
local macro_rules | `(tactic| walk_at "compareOp Lt float int") => `(tactic| (refine s_lt_fi (by ktr_rel) ?_; intro b e))
local macro_rules | `(tactic| walk_at "compareOp Eq float int") => `(tactic| (refine s_eq_fi (by ktr_rel) ?_; intro b e))
local macro_rules | `(tactic| walk_at "eval Call") => `(tactic| k_dflt (refine Call_ ?_))
local macro_rules | `(tactic| walk_at "compareOp In int ref") => `(tactic| (k_here; (with_unfolding_all refine' in_tup_K ?k1 ?k2 ?k3 ?k4 ?_); (case k1 => k_asm); (case k2 => k_asm); (case k3 => k_is); (case k4 => repeat constructor); intro b e))
local macro_rules | `(tactic| walk_at "call ref") => `(tactic| first
  | ((with_reducible show wpAny _ _ (call (Value.ref 380) _) _ _ _); (with_unfolding_all refine' Claim.use (c_isleap _ _) ?k1 ?k2 ?k3 ?k4 ?k5 ?k6 ?k7 ?k8 ?_); (case k1 => k_asm); (case k2 => k_asm); (case k3 => k_asm); (case k4 => k_asm); (case k5 => k_asm); (case k6 => first | exact rfl | assumption); (case k7 => ktr_room); (case k8 => ktr_units); (intro v9 n9 h9 tk9 p9 F9 N9; obtain ⟨e9, e8⟩ := p9; subst e9; subst e8); (try dsimp only); (try k_fold))
  | ((with_reducible show wpAny _ _ (call (Value.ref 408) _) _ _ _); (with_unfolding_all refine' Claim.use (c_legal _ _ _ _ _ (by omega) (by omega)) ?k1 ?k2 ?k3 ?k4 ?k5 ?k6 ?k7 ?k8 ?_); (case k1 => k_asm); (case k2 => k_asm); (case k3 => k_asm); (case k4 => k_asm); (case k5 => k_asm); (case k6 => first | exact rfl | assumption); (case k7 => ktr_room); (case k8 => ktr_units); (intro v9 n9 h9 tk9 p9 F9 N9; obtain ⟨e9, e8⟩ := p9; subst e9; subst e8); (try dsimp only); (try k_fold)))
theorem fx_cast {x : UInt64} {p r : Int} (h : p = r) (f : Fx x r) : Fx x p := h ▸ f
set_option maxRecDepth 100000 in
set_option maxHeartbeats 8000000 in
theorem c_tojd (yy mm : Int) (u u2 u3 : Tok) (hy1 : 1 ≤ yy) (hy2 : yy ≤ 100000) (hm1 : 1 ≤ mm) (hm2 : mm ≤ 12) : Claim 415 8 64 [.int yy u, .int mm u2, .int 1 u3] (GivesF (4 * (Off 0 yy mm + 1) + 2)) := by
  unfold Claim
  k_fill
  intro w loose mean mg mb news dp un gd cn cs a ccd cl outer A₀ base h₀ L m s Q E B F X N T hk hd hu hret
  refine wpAny_call ?_
  k_dflt cell_enter
  k_steps
  all_goals (refine hret _ news _ _ ⟨⟨_, _, rfl, fx_cast ?_ (by with_reducible assumption)⟩, rfl⟩ (by k_asm) (by first | k_asm | (refine' cb_drop ?cbN ?cbS; (case cbN => assumption); (case cbS => kcj_all))))
  all_goals (rw [off0, moff]; unfold gY)
  all_goals (first
    | (rw [if_pos (by omega)]; omega)
    | (rw [if_neg (by omega), if_pos (by assumption)]; omega)
    | (rw [if_neg (by omega), if_neg (by assumption)]; omega)
    | (rw [if_neg (by omega), if_neg (by simp_all)]; omega)
    | (trace_state; fail "open"))
end Mine
end

section -- CU
open PySem PySem.W PySem.Calls PyProof.Rows PySem.Spec PySem.Flt
namespace Mine
local macro_rules | `(tactic| walk_at "none 0") => `(tactic| skip)

theorem Claim.mono {f : Addr} {dn un0 : Nat} {vs : List Value} {P P' : List (Addr × Obj) → Value → List (Addr × Obj) → Prop} (C : Claim f dn un0 vs P) (h : ∀ a b c, P a b c → P' a b c) : Claim f dn un0 vs P' := by
  unfold Claim
  intro w loose mean mg mb news dp un gd cn cs a ccd cl outer A₀ base h₀ L m s Q E B F X N T hk hd hu hret
  exact C.use B F X N T hk hd hu fun v news' h' tk' p => hret v news' h' tk' (h _ _ _ p)

/-- a statement's end: the name x holds an int v with R v, all else stands -/
structure CutE (x : Str) (R : Int → Prop) (h₀ : Heap) (L : Addr) (m : Str → Option Value) (news : List (Addr × Obj)) (s : Shared) (f : Flow) (s₃ : Shared) : Prop where
  nx : f = .next
  ex : ∃ v t h' tk, R v ∧ Fr h₀ L h' (fun y => if y = x then some (.int v t) else m y) ∧ News h₀ L h' news ∧ s₃ = { s with heap := h', toks := tk }

section
variable {M : Model} {A : Around} {E : Value → Shared → Prop} {s : Shared} {env : Env} {h₀ : Heap} {L : Addr} {m : Str → Option Value} {news : List (Addr × Obj)} {x : Str} {R : Int → Prop}
theorem cut_stmt {st : Stmt} {Q : Flow → Shared → Prop} (hF0 : Fr h₀ L s.heap m) (hN00 : News h₀ L s.heap news)
    (h1 : wpAny M A (exec st env) (CutE x R h₀ L m news s) E s)
    (h2 : ∀ v t h' tk, R v → Fr h₀ L h' (fun y => if y = x then some (.int v t) else m y) → News h₀ L h' news → Q .next { s with heap := h', toks := tk }) :
    wpAny M A (exec st env) Q E s :=
  wpAny_mono h1 (fun f s₃ c => by
    obtain ⟨rfl, v, t, h', tk, r, F, N, rfl⟩ := c
    exact h2 v t h' tk r F N) fun _ _ e => e
theorem CutE.set {v : Int} {t : Tok} {h' : Heap} {tk : Nat} (F : Fr h₀ L h' (fun y => if y = x then some (.int v t) else m y)) (N : News h₀ L h' news) (r : R v) : CutE x R h₀ L m news s .next { s with heap := h', toks := tk } :=
  ⟨rfl, v, t, h', tk, r, F, N, rfl⟩
theorem CutE.keep {v : Int} {t : Tok} {h' : Heap} {tk : Nat} (F : Fr h₀ L h' m) (N : News h₀ L h' news) (hx : m x = some (.int v t)) (r : R v) : CutE x R h₀ L m news s .next { s with heap := h', toks := tk } := by
  refine ⟨rfl, v, t, h', tk, r, ?_, N, rfl⟩
  have : (fun y => if y = x then some (.int v t) else m y) = m := by
    funext y
    by_cases h : y = x
    · rw [if_pos h, h, hx]
    · rw [if_neg h]
  rw [this]
  exact F
end

theorem gyA {N q c qd yi rD r1 r2 r3 : Int} (hN1 : 2117599 ≤ N) (hN2 : N ≤ 30000000) (hq : q = rD / (4 * 146097)) (hD : rD = 4 * (N - 1721425)) (h1 : r1 = rD % (4 * 146097)) (hc : c = r1 / (4 * 36524)) (h2 : r2 = r1 % (4 * 36524)) (hqd : qd = r2 / (4 * 1461)) (h3 : r3 = r2 % (4 * 1461)) (hyi : yi = r3 / (4 * 365))
    (k1 : ¬ c = 4) (k2 : ¬ yi = 4) : GY N (q * 400 + c * 100 + qd * 4 + yi + 1) := by
  have f1 : r1 = 4 * ((N - 1721425) % 146097) := by omega
  have f2 : r2 = 4 * ((N - 1721425) % 146097 % 36524) := by omega
  have f3 : r3 = 4 * ((N - 1721425) % 146097 % 36524 % 1461) := by omega
  exact gy_a (by omega) hN2 (by omega) rfl (by omega) rfl (by omega) rfl (by omega) k1 k2
theorem gyB {N q c qd yi rD r1 r2 r3 : Int} (hN1 : 2117599 ≤ N) (hN2 : N ≤ 30000000) (hq : q = rD / (4 * 146097)) (hD : rD = 4 * (N - 1721425)) (h1 : r1 = rD % (4 * 146097)) (hc : c = r1 / (4 * 36524)) (h2 : r2 = r1 % (4 * 36524)) (hqd : qd = r2 / (4 * 1461)) (h3 : r3 = r2 % (4 * 1461)) (hyi : yi = r3 / (4 * 365))
    (k : c = 4 ∨ yi = 4) : GY N (q * 400 + c * 100 + qd * 4 + yi) := by
  have f1 : r1 = 4 * ((N - 1721425) % 146097) := by omega
  have f2 : r2 = 4 * ((N - 1721425) % 146097 % 36524) := by omega
  have f3 : r3 = 4 * ((N - 1721425) % 146097 % 36524 % 1461) := by omega
  exact gy_b (by omega) hN2 (by omega) rfl (by omega) rfl (by omega) rfl (by omega) k

/-- what the leap adjustment must be -/
structure RAdj (N Y a : Int) : Prop where
  a1 : 0 ≤ a
  a2 : a ≤ 2
  a3 : ((N - Off 0 Y 1 - 1 + a) * 12 + 373) / 367 = mth (gleap Y) (N - Off 0 Y 1 - 1)
theorem radjA {N Y r : Int} {b : Bool} (e : b = decide (r < 4 * (58 + if gleap Y = true then 1 else 0))) (a : b = true) (hr : r = 4 * (N - Off 0 Y 1 - 1)) : RAdj N Y 0 := by
  subst a
  have h : r < 4 * (58 + if gleap Y = true then 1 else 0) := by simpa using e.symm
  refine ⟨by omega, by omega, ?_⟩
  unfold mth
  rw [if_pos (by omega)]
theorem radjB {N Y r : Int} {b : Bool} (e : b = decide (r < 4 * (58 + if gleap Y = true then 1 else 0))) (a : b = false) (hl : gleap Y = true) (hr : r = 4 * (N - Off 0 Y 1 - 1)) : RAdj N Y 1 := by
  have h : ¬ r < 4 * (58 + if gleap Y = true then 1 else 0) := by simpa [e] using a
  refine ⟨by omega, by omega, ?_⟩
  unfold mth
  rw [if_neg (by omega), if_pos hl]
theorem radjC {N Y r : Int} {b : Bool} (e : b = decide (r < 4 * (58 + if gleap Y = true then 1 else 0))) (a : b = false) (hl : gleap Y = false) (hr : r = 4 * (N - Off 0 Y 1 - 1)) : RAdj N Y 2 := by
  have h : ¬ r < 4 * (58 + if gleap Y = true then 1 else 0) := by simpa [e] using a
  refine ⟨by omega, by omega, ?_⟩
  unfold mth
  rw [if_neg (by omega), if_neg (by rw [hl]; decide)]

theorem gm_of {N Y M a c r1 r2 r3 r4 : Int} (g : GY N Y) (ha : RAdj N Y a) (hM : M = r4 / (4 * 367)) (e4 : r4 = r3 + 4 * 373) (e3 : r3 = r2 * 12) (e2 : r2 = r1 + 4 * a) (e1 : r1 = c - (4 * (Off 0 Y 1 + 1) + 2)) (e0 : c = 4 * N + 2) : GM N Y M := by
  obtain ⟨_, _, h⟩ := ha
  refine gm_ok g rfl ?_
  rw [← h]
  omega

theorem tojd_y {N Y : Int} {u u2 u3 : Tok} (g : GY N Y) : Claim 415 8 64 [.int Y u, .int 1 u2, .int 1 u3] (fun news v news' => (∃ x t, v = .float x t ∧ Fx x (4 * (Off 0 Y 1 + 1) + 2)) ∧ news = news') :=
  c_tojd _ 1 u u2 u3 g.y1 g.y2 (by decide) (by decide)
theorem tojd_m {N Y M : Int} {u u2 u3 : Tok} (g : GY N Y) (gm : GM N Y M) : Claim 415 8 64 [.int Y u, .int M u2, .int 1 u3] (fun news v news' => (∃ x t, v = .float x t ∧ Fx x (4 * (Off 0 Y M + 1) + 2) ∧ GM N Y M) ∧ news = news') :=
  (c_tojd _ M u u2 u3 g.y1 g.y2 gm.m1 gm.m2).mono fun _ _ _ ⟨⟨x, t, h1, h2⟩, h3⟩ => ⟨⟨x, t, h1, h2, gm⟩, h3⟩

section
variable {M : Model} {A : Around} {E : Value → Shared → Prop} {s : Shared} {env : Env} {h₀ : Heap} {L : Addr} {m : Str → Option Value} {news : List (Addr × Obj)}
theorem cut_year {N : Int} {st : Stmt} {Q : Flow → Shared → Prop} (hN0 : 2117599 ≤ N) (F : Fr h₀ L s.heap m) (N' : News h₀ L s.heap news)
    (h1 : wpAny M A (exec st env) (CutE (Str.ofString "year") (GY N) h₀ L m news s) E s)
    (h2 : ∀ v t h' tk, GY N v → Fr h₀ L h' (fun y => if y = Str.ofString "year" then some (.int v t) else m y) → News h₀ L h' news → Q .next { s with heap := h', toks := tk }) :
    wpAny M A (exec st env) Q E s := cut_stmt F N' h1 h2
theorem cut_adj {N Y : Int} {st : Stmt} {Q : Flow → Shared → Prop} (hg0 : GY N Y) (F : Fr h₀ L s.heap m) (N' : News h₀ L s.heap news)
    (h1 : wpAny M A (exec st env) (CutE (Str.ofString "leap_adj") (RAdj N Y) h₀ L m news s) E s)
    (h2 : ∀ v t h' tk, RAdj N Y v → Fr h₀ L h' (fun y => if y = Str.ofString "leap_adj" then some (.int v t) else m y) → News h₀ L h' news → Q .next { s with heap := h', toks := tk }) :
    wpAny M A (exec st env) Q E s := cut_stmt F N' h1 h2
end

theorem dat_cast {k N y m d d' : Int} (h : Dat k N y m d) (e : d' = d) : Dat k N y m d' := e ▸ h

/-- a date comes back, as a tuple -/
abbrev GivesD (k N : Int) : List (Addr × Obj) → Value → List (Addr × Obj) → Prop := fun news v news' =>
  ∃ a y m d t1 t2 t3, v = .ref a ∧ news' = (a, { cls := .type "tuple", data := .seq #[.int y t1, .int m t2, .int d t3] }) :: news ∧ Dat k N y m d
end Mine
end

section -- C4
open PySem PySem.W PySem.Calls PyProof.Rows PySem.Spec PySem.Flt
namespace Mine
local macro_rules | `(tactic| ktr_rel) => `(tactic| first | with_reducible assumption | exact fx_half | exact fx_greg | exact fx_arm | exact fx_sark | exact fx_copt | exact fx_isl | exact fx_law | exact fx_295 | exact fx_365)
local macro_rules | `(tactic| walk_at "binaryOp Add float float") => `(tactic| (refine s_add_ff (by ktr_rel) (by ktr_rel) (by omega) (by omega) ?_; intro z r e f t; (try dsimp only)))
local macro_rules | `(tactic| walk_at "inplaceOp Add float float") => `(tactic| (refine s_iadd_ff (by ktr_rel) (by ktr_rel) (by omega) (by omega) ?_; intro z r e f t; (try dsimp only)))
local macro_rules | `(tactic| walk_at "binaryOp Sub float float") => `(tactic| (refine s_sub_ff (by ktr_rel) (by ktr_rel) (by omega) (by omega) ?_; intro z r e f t; (try dsimp only)))
local macro_rules | `(tactic| walk_at "binaryOp Add float int") => `(tactic| first
  | (refine s_add_fi rfl (by ktr_rel) (by omega) (by omega) (by omega) (by omega) ?_; intro z r e f t; (try dsimp only))
  | (refine s_add_fi_nr rfl (by with_reducible assumption) (by omega) (by omega) (by omega) (by omega) (by omega) ?_; intro z r e f t; (try dsimp only)))
local macro_rules | `(tactic| walk_at "binaryOp Add int float") => `(tactic| (refine s_add_if rfl (by ktr_rel) (by omega) (by omega) (by omega) (by omega) ?_; intro z r e f t; (try dsimp only)))
local macro_rules | `(tactic| walk_at "binaryOp Sub float int") => `(tactic| (refine s_sub_fi rfl (by ktr_rel) (by omega) (by omega) (by omega) (by omega) ?_; intro z r e f t; (try dsimp only)))
local macro_rules | `(tactic| walk_at "binaryOp Sub int float") => `(tactic| (refine s_sub_if rfl (by ktr_rel) (by omega) (by omega) (by omega) (by omega) ?_; intro z r e f t; (try dsimp only)))
local macro_rules | `(tactic| walk_at "binaryOp Mult float int") => `(tactic| (refine s_mul_fi rfl (by ktr_rel) (by omega) (by omega) (by omega) (by omega) ?_; intro z r e f t; (try dsimp only)))
local macro_rules | `(tactic| walk_at "binaryOp Mult int float") => `(tactic| (refine s_mul_if rfl (by ktr_rel) (by omega) (by omega) (by omega) (by omega) ?_; intro z r e f t; (try dsimp only)))
local macro_rules | `(tactic| walk_at "binaryOp Div float float") => `(tactic| (refine s_div_ff rfl (by ktr_rel) (by ktr_rel) (by omega) (by omega) (by omega) ?_; intro z f t; (try dsimp only)))
local macro_rules | `(tactic| walk_at "binaryOp Div float int") => `(tactic| (refine s_div_fi rfl (by ktr_rel) (by omega) (by omega) (by omega) (by omega) ?_; intro z f t; (try dsimp only)))
local macro_rules | `(tactic| walk_at "binaryOp Div int int") => `(tactic| (refine s_div_ii rfl (by omega) (by omega) (by omega) ?_; intro z f t; (try dsimp only)))
local macro_rules | `(tactic| walk_at "binaryOp Mod float int") => `(tactic| (refine s_mod_fi rfl (by ktr_rel) (by omega) (by omega) (by omega) (by omega) ?_; intro z r e f t; (try dsimp only)))
local macro_rules | `(tactic| walk_at "call builtin:math.floor") => `(tactic| first
  | ((with_reducible show wpAny _ _ (call _ [Value.float _ _]) _ _ _); refine s_floor_fx rfl (by ktr_rel) ?_; intro c e t; (try dsimp only))
  | ((with_reducible show wpAny _ _ (call _ [Value.float _ _]) _ _ _); refine s_floor_nr rfl (by with_reducible assumption) (by omega) (by omega) (by omega) (by omega) ?_; intro c e t; (try dsimp only)))
local macro_rules | `(tactic| walk_at "call builtin:math.ceil") => `(tactic| first
  | ((with_reducible show wpAny _ _ (call _ [Value.float _ _]) _ _ _); refine s_ceil_fx rfl (by ktr_rel) ?_; intro c e t; (try dsimp only))
  | ((with_reducible show wpAny _ _ (call _ [Value.float _ _]) _ _ _); refine s_ceil_nr rfl (by with_reducible assumption) (by omega) (by omega) (by omega) (by omega) ?_; intro c e t; (try dsimp only)))
local macro_rules | `(tactic| walk_at "call builtin:math.trunc") => `(tactic| first
  | ((with_reducible show wpAny _ _ (call _ [Value.float _ _]) _ _ _); refine s_trunc_fx rfl (by ktr_rel) (by omega) ?_; intro c e t; (try dsimp only))
  | ((with_reducible show wpAny _ _ (call _ [Value.float _ _]) _ _ _); refine s_trunc_nr rfl (by with_reducible assumption) (by omega) (by omega) (by omega) (by omega) (by omega) ?_; intro c e t; (try dsimp only)))
local macro_rules | `(tactic| walk_at "call type:int") => `(tactic| ((with_reducible show wpAny _ _ (call _ [Value.float _ _]) _ _ _); refine s_int_fx rfl (by ktr_rel) (by omega) ?_; intro c e t; (try dsimp only)))
local macro_rules | `(tactic| walk_at "compareOp Lt float int") => `(tactic| (refine s_lt_fi (by ktr_rel) ?_; intro b e; (try dsimp only)))
local macro_rules | `(tactic| walk_at "compareOp Eq float int") => `(tactic| (refine s_eq_fi (by ktr_rel) ?_; intro b e; (try dsimp only)))
local macro_rules | `(tactic| walk_at "eval Call") => `(tactic| k_dflt (refine Call_ ?_))
local macro_rules | `(tactic| walk_at "compareOp In int ref") => `(tactic| (k_here; (with_unfolding_all refine' in_tup_K ?k1 ?k2 ?k3 ?k4 ?_); (case k1 => k_asm); (case k2 => k_asm); (case k3 => k_is); (case k4 => repeat constructor); intro b e; (try dsimp only)))
local macro_rules | `(tactic| walk_at "call ref") => `(tactic| first
  | ((with_reducible show wpAny _ _ (call (Value.ref 415) [_, Value.int 1 _, _]) _ _ _); (with_unfolding_all refine' Claim.use (tojd_y (by assumption)) ?k1 ?k2 ?k3 ?k4 ?k5 ?k6 ?k7 ?k8 ?_); (case k1 => k_asm); (case k2 => k_asm); (case k3 => k_asm); (case k4 => k_asm); (case k5 => k_asm); (case k6 => first | exact rfl | assumption); (case k7 => ktr_room); (case k8 => ktr_units); (intro v9 n9 h9 tk9 p9 F9 N9; obtain ⟨⟨x9, t9, e9, f9⟩, e8⟩ := p9; subst e9; subst e8); (try dsimp only); (try k_fold))
  | ((with_reducible show wpAny _ _ (call (Value.ref 415) _) _ _ _); (with_unfolding_all refine' Claim.use (tojd_m (by assumption) (gm_of (by assumption) (by assumption) (by assumption) (by assumption) (by assumption) (by assumption) (by assumption) (by omega))) ?k1 ?k2 ?k3 ?k4 ?k5 ?k6 ?k7 ?k8 ?_); (case k1 => k_asm); (case k2 => k_asm); (case k3 => k_asm); (case k4 => k_asm); (case k5 => k_asm); (case k6 => first | exact rfl | assumption); (case k7 => ktr_room); (case k8 => ktr_units); (intro v9 n9 h9 tk9 p9 F9 N9; obtain ⟨⟨x9, t9, e9, f9, gm9⟩, e8⟩ := p9; subst e9; subst e8; (have gm8 := gm9); obtain ⟨m1, m2, lo, hi, dat⟩ := gm8); (try dsimp only); (try k_fold))
  | ((with_reducible show wpAny _ _ (call (Value.ref 380) _) _ _ _); (with_unfolding_all refine' Claim.use (c_isleap _ _) ?k1 ?k2 ?k3 ?k4 ?k5 ?k6 ?k7 ?k8 ?_); (case k1 => k_asm); (case k2 => k_asm); (case k3 => k_asm); (case k4 => k_asm); (case k5 => k_asm); (case k6 => first | exact rfl | assumption); (case k7 => ktr_room); (case k8 => ktr_units); (intro v9 n9 h9 tk9 p9 F9 N9; obtain ⟨e9, e8⟩ := p9; subst e9; subst e8); (try dsimp only); (try k_fold)))
local macro_rules | `(tactic| walk_at "exec If") => `(tactic| first
  | ((with_reducible show wpAny _ _ (exec (Stmt.If (Expr.UnaryOp _ _ _) _ _ _) _) _ _ _); (with_unfolding_all refine' cut_year ?k0 ?k1 ?k2 ?_ ?_); (case k0 => assumption); (case k1 => k_asm); (case k2 => k_asm); (refine wpAny_If ?_); rotate_left; (intro Y9 t9 h9 tk9 g9 F9 N9; (have g8 := g9); obtain ⟨y1, y2, lo, hi, hl, b1, b2⟩ := g8; (try dsimp only); (try k_fold)))
  | ((with_reducible show wpAny _ _ (exec (Stmt.If (Expr.Compare _ _ _ _) _ [Stmt.If _ _ _ _] _) _) _ _ _); (with_unfolding_all refine' cut_adj ?k0 ?k1 ?k2 ?_ ?_); (case k0 => assumption); (case k1 => k_asm); (case k2 => k_asm); (refine wpAny_If ?_); rotate_left; (intro a9 t9 h9 tk9 g9 F9 N9; (have g8 := g9); obtain ⟨a1, a2, a3⟩ := g8; (try dsimp only); (try k_fold))))
local macro_rules | `(tactic| walk_at "CutE") => `(tactic| ((rename Fr _ _ _ _ => F8); (rename News _ _ _ _ => N8); first
  | (refine CutE.set F8 N8 ?_; first | exact gyA (by assumption) (by assumption) (by assumption) (by omega) (by assumption) (by assumption) (by assumption) (by assumption) (by assumption) (by assumption) (by omega) (by omega) | exact radjA (by assumption) (by assumption) (by omega) | exact radjB (by assumption) (by assumption) (by assumption) (by omega) | exact radjC (by assumption) (by assumption) (by assumption) (by omega))
  | (refine CutE.keep F8 N8 rfl ?_; exact gyB (by assumption) (by assumption) (by assumption) (by omega) (by assumption) (by assumption) (by assumption) (by assumption) (by assumption) (by assumption) (by omega))))
set_option maxRecDepth 100000 in
set_option maxHeartbeats 8000000 in
theorem c_greg (N : Int) (x : UInt64) (u : Tok) (fx : Fx x (4 * N + 2)) (hN1 : 2117599 ≤ N) (hN2 : N ≤ 30000000) : Claim 422 16 128 [.float x u] (GivesD 0 N) := by
  unfold Claim
  k_fill
  intro w loose mean mg mb news dp un gd cn cs a ccd cl outer A₀ base h₀ L m s Q E B F X N T hk hd hu hret
  refine wpAny_call ?_
  k_dflt (refine' code_def (binds := [(Str.ofString "jd", .float x u)]) ?k1 ?k2 ?k3 ?k4 ?k5 ?kA ?kF ?kK ?k6 ?k7 ?k8 ?k9 ?kB ?_ ?c2 ?c3 ?c4 ?c5; (case kA => exact rfl); (case kF => exact rfl); (case kK => assumption); (case k1 => k_asm); (case k2 => k_asm); (case k3 => k_asm); (case k4 => k_asm); (case k5 => k_asm); (case k6 => k_is); (case k7 => k_is); (case k8 => ktr_room); (case k9 => exact BindsTo.of_eq rfl); (case c5 => decide); (case kB => exact locs rfl); (case c2 => exact rfl); (case c3 => exact rfl); (case c4 => exact rfl); k_whole; intro g' L' h' FG' F' N' B' X' T'; (try dsimp only [List.reverse, List.reverseAux]); (try k_lift B'); (try k_fold))
  k_steps
  all_goals (refine hret _ _ _ _ ⟨_, _, _, _, _, _, _, rfl, rfl, ?_⟩ (by k_asm) (by k_asm))
  all_goals exact dat_cast (by with_reducible assumption) (by omega)
end Mine
end

section -- SJ
open PySem PySem.W PySem.Calls PyProof.Rows PySem.Spec PySem.Flt
namespace Mine
structure J1 (z : UInt64) (n : Int) : Prop where
  e : z = Float64.sub (Float64.ofInt n) 4638292440600962662
structure Fl (x : UInt64) (c : Int) : Prop where
  f : Fin x
  v : toInt Float64.floorOf x = c
section
variable {prog : Program} {w : World} {A : Around} {E : Value → Shared → Prop} {s : Shared} {x y : UInt64} {p q n : Int} {t u : Tok} {Q : Value → Shared → Prop}
theorem s_sub_1221 (hA : A.handled = none) (n1 : -(2 ^ 32) ≤ n) (n2 : n ≤ 2 ^ 32) (k : ∀ z, J1 z n → ∀ t, Q (.float z t) { s with toks := s.toks + 1 }) :
    wpAny (model prog w) A (binaryOp .Sub (.int n u) (.float 4638292440600962662 t)) Q E s :=
  sub_if_sharp hA (fun hb => absurd hb (not_over_small n1 n2)) (fun _ => k _ ⟨rfl⟩ _)
theorem s_div_j (hA : A.handled = none) (hx : J1 x n) (h1 : 1000 ≤ n) (h2 : n ≤ 2 ^ 28) (k : ∀ z, Fl z ((4 * n - 489) / 1461) → ∀ t, Q (.float z t) { s with toks := s.toks + 1 }) :
    wpAny (model prog w) A (binaryOp .Div (.float x t) (.float 4645133162144333824 u)) Q E s := by
  refine truediv_float_or hA (fun hz => absurd hz (by rw [fx_isZero fx_365 (by decide)]; decide)) (fun _ => k _ ?_ _)
  rw [hx.e]
  exact ⟨(jul_c h1 h2).1, (jul_c h1 h2).2⟩
theorem s_div_3 (hA : A.handled = none) (h1 : 0 ≤ n) (h2 : n < 520) (k : ∀ z, Fl z (n * 10000 / 306001) → ∀ t, Q (.float z t) { s with toks := s.toks + 1 }) :
    wpAny (model prog w) A (binaryOp .Div (.int n u) (.float 4629306380116972641 t)) Q E s :=
  truediv_if hA (fun hb => absurd hb (not_over_small (by omega) (by omega))) (fun _ hz => absurd hz (by decide +kernel)) (fun _ _ => k _ ⟨(jul_e h1 h2).1, (jul_e h1 h2).2⟩ _)
theorem s_mul_3 (hA : A.handled = none) (h1 : 0 ≤ n) (h2 : n < 32) (k : ∀ z, Fl z (n * 306001 / 10000) → ∀ t, Q (.float z t) { s with toks := s.toks + 1 }) :
    wpAny (model prog w) A (binaryOp .Mult (.float 4629306380116972641 t) (.int n u)) Q E s :=
  mul_fi_sharp hA (fun hb => absurd hb (not_over_small (by omega) (by omega))) (fun _ => k _ ⟨(jul_f h1 h2).1, (jul_f h1 h2).2⟩ _)
theorem s_floor_fl {c : Int} (hA : A.handled = none) (hx : Fl x c) (k : ∀ c', c' = c → ∀ t, Q (.int c' t) { s with toks := s.toks + 1 }) :
    wpAny (model prog w) A (call (.builtin "math.floor") [.float x t]) Q E s := s_floor_of hA ⟨hx.f, hx.v⟩ k
end
theorem jul_lo' {N a c d e f : Int} (h1 : 2117599 ≤ N) (h2 : N ≤ 30000000) (ha : a = N + 1) (hc : c = (4 * (a + 1524) - 489) / 1461) (hd : d = 1461 * c / 4) (he : e = (a + 1524 - d) * 10000 / 306001) (hf : f = e * 306001 / 10000) (hl : e < 14) : Dat 1 N (c - 4716) (e - 1) (a + 1524 - d - f) := by
  subst hd hf
  exact jul_lo (b := a + 1524) (by omega) (by omega) (by omega) hc he hl
theorem jul_hi' {N a c d e f : Int} (h1 : 2117599 ≤ N) (h2 : N ≤ 30000000) (ha : a = N + 1) (hc : c = (4 * (a + 1524) - 489) / 1461) (hd : d = 1461 * c / 4) (he : e = (a + 1524 - d) * 10000 / 306001) (hf : f = e * 306001 / 10000) (hl : ¬ e < 14) : Dat 1 N (c - 4715) (e - 13) (a + 1524 - d - f) := by
  subst hd hf
  exact jul_hi (b := a + 1524) (by omega) (by omega) (by omega) hc he hl
end Mine
end

section -- C5
open PySem PySem.W PySem.Calls PyProof.Rows PySem.Spec PySem.Flt
namespace Mine
local macro_rules | `(tactic| ktr_rel) => `(tactic| first | with_reducible assumption | exact fx_half | exact fx_greg | exact fx_arm | exact fx_sark | exact fx_copt | exact fx_isl | exact fx_law | exact fx_295 | exact fx_365)
local macro_rules | `(tactic| walk_at "binaryOp Add float float") => `(tactic| (refine s_add_ff (by ktr_rel) (by ktr_rel) (by omega) (by omega) ?_; intro z r e f t; (try dsimp only)))
local macro_rules | `(tactic| walk_at "inplaceOp Add float float") => `(tactic| (refine s_iadd_ff (by ktr_rel) (by ktr_rel) (by omega) (by omega) ?_; intro z r e f t; (try dsimp only)))
local macro_rules | `(tactic| walk_at "binaryOp Sub float float") => `(tactic| (refine s_sub_ff (by ktr_rel) (by ktr_rel) (by omega) (by omega) ?_; intro z r e f t; (try dsimp only)))
local macro_rules | `(tactic| walk_at "binaryOp Add float int") => `(tactic| first
  | (refine s_add_fi rfl (by ktr_rel) (by omega) (by omega) (by omega) (by omega) ?_; intro z r e f t; (try dsimp only))
  | (refine s_add_fi_nr rfl (by with_reducible assumption) (by omega) (by omega) (by omega) (by omega) (by omega) ?_; intro z r e f t; (try dsimp only)))
local macro_rules | `(tactic| walk_at "binaryOp Add int float") => `(tactic| (refine s_add_if rfl (by ktr_rel) (by omega) (by omega) (by omega) (by omega) ?_; intro z r e f t; (try dsimp only)))
local macro_rules | `(tactic| walk_at "binaryOp Sub float int") => `(tactic| (refine s_sub_fi rfl (by ktr_rel) (by omega) (by omega) (by omega) (by omega) ?_; intro z r e f t; (try dsimp only)))
local macro_rules | `(tactic| walk_at "binaryOp Sub int float") => `(tactic| (refine s_sub_if rfl (by ktr_rel) (by omega) (by omega) (by omega) (by omega) ?_; intro z r e f t; (try dsimp only)))
local macro_rules | `(tactic| walk_at "binaryOp Mult float int") => `(tactic| (refine s_mul_fi rfl (by ktr_rel) (by omega) (by omega) (by omega) (by omega) ?_; intro z r e f t; (try dsimp only)))
local macro_rules | `(tactic| walk_at "binaryOp Mult int float") => `(tactic| (refine s_mul_if rfl (by ktr_rel) (by omega) (by omega) (by omega) (by omega) ?_; intro z r e f t; (try dsimp only)))
local macro_rules | `(tactic| walk_at "binaryOp Div float float") => `(tactic| (refine s_div_ff rfl (by ktr_rel) (by ktr_rel) (by omega) (by omega) (by omega) ?_; intro z f t; (try dsimp only)))
local macro_rules | `(tactic| walk_at "binaryOp Div float int") => `(tactic| (refine s_div_fi rfl (by ktr_rel) (by omega) (by omega) (by omega) (by omega) ?_; intro z f t; (try dsimp only)))
local macro_rules | `(tactic| walk_at "binaryOp Div int int") => `(tactic| (refine s_div_ii rfl (by omega) (by omega) (by omega) ?_; intro z f t; (try dsimp only)))
local macro_rules | `(tactic| walk_at "binaryOp Mod float int") => `(tactic| (refine s_mod_fi rfl (by ktr_rel) (by omega) (by omega) (by omega) (by omega) ?_; intro z r e f t; (try dsimp only)))
local macro_rules | `(tactic| walk_at "call builtin:math.floor") => `(tactic| first
  | ((with_reducible show wpAny _ _ (call _ [Value.float _ _]) _ _ _); refine s_floor_fx rfl (by ktr_rel) ?_; intro c e t; (try dsimp only))
  | ((with_reducible show wpAny _ _ (call _ [Value.float _ _]) _ _ _); refine s_floor_nr rfl (by with_reducible assumption) (by omega) (by omega) (by omega) (by omega) ?_; intro c e t; (try dsimp only)))
local macro_rules | `(tactic| walk_at "call builtin:math.ceil") => `(tactic| first
  | ((with_reducible show wpAny _ _ (call _ [Value.float _ _]) _ _ _); refine s_ceil_fx rfl (by ktr_rel) ?_; intro c e t; (try dsimp only))
  | ((with_reducible show wpAny _ _ (call _ [Value.float _ _]) _ _ _); refine s_ceil_nr rfl (by with_reducible assumption) (by omega) (by omega) (by omega) (by omega) ?_; intro c e t; (try dsimp only)))
local macro_rules | `(tactic| walk_at "call builtin:math.trunc") => `(tactic| first
  | ((with_reducible show wpAny _ _ (call _ [Value.float _ _]) _ _ _); refine s_trunc_fx rfl (by ktr_rel) (by omega) ?_; intro c e t; (try dsimp only))
  | ((with_reducible show wpAny _ _ (call _ [Value.float _ _]) _ _ _); refine s_trunc_nr rfl (by with_reducible assumption) (by omega) (by omega) (by omega) (by omega) (by omega) ?_; intro c e t; (try dsimp only)))
local macro_rules | `(tactic| walk_at "call type:int") => `(tactic| ((with_reducible show wpAny _ _ (call _ [Value.float _ _]) _ _ _); refine s_int_fx rfl (by ktr_rel) (by omega) ?_; intro c e t; (try dsimp only)))
local macro_rules | `(tactic| walk_at "compareOp Lt float int") => `(tactic| (refine s_lt_fi (by ktr_rel) ?_; intro b e; (try dsimp only)))
local macro_rules | `(tactic| walk_at "compareOp Eq float int") => `(tactic| (refine s_eq_fi (by ktr_rel) ?_; intro b e; (try dsimp only)))
local macro_rules | `(tactic| walk_at "eval Call") => `(tactic| k_dflt (refine Call_ ?_))
local macro_rules | `(tactic| walk_at "compareOp In int ref") => `(tactic| (k_here; (with_unfolding_all refine' in_tup_K ?k1 ?k2 ?k3 ?k4 ?_); (case k1 => k_asm); (case k2 => k_asm); (case k3 => k_is); (case k4 => repeat constructor); intro b e; (try dsimp only)))
local macro_rules | `(tactic| walk_at "binaryOp Sub int float") => `(tactic| (with_reducible refine s_sub_1221 rfl (by k_dflt omega) (by k_dflt omega) ?_; intro z f t; (try dsimp only)))
local macro_rules | `(tactic| walk_at "binaryOp Div float float") => `(tactic| (with_reducible refine s_div_j rfl (by with_reducible assumption) (by k_dflt omega) (by k_dflt omega) ?_; intro z f t; (try dsimp only)))
local macro_rules | `(tactic| walk_at "binaryOp Div int float") => `(tactic| (with_reducible refine s_div_3 rfl (by k_dflt omega) (by k_dflt omega) ?_; intro z f t; (try dsimp only)))
local macro_rules | `(tactic| walk_at "binaryOp Mult float int") => `(tactic| (with_reducible refine s_mul_3 rfl (by k_dflt omega) (by k_dflt omega) ?_; intro z f t; (try dsimp only)))
local macro_rules | `(tactic| walk_at "call builtin:math.floor") => `(tactic| ((with_reducible show wpAny _ _ (call _ [Value.float _ _]) _ _ _); refine s_floor_fl rfl (by with_reducible assumption) ?_; intro c e t; (try dsimp only)))
set_option maxRecDepth 100000 in
set_option maxHeartbeats 8000000 in
theorem c_jul (N : Int) (x : UInt64) (u : Tok) (fx : Fx x (4 * N + 2)) (hN1 : 2117599 ≤ N) (hN2 : N ≤ 30000000) : Claim 531 16 128 [.float x u] (GivesD 1 N) := by
  unfold Claim
  k_fill
  intro w loose mean mg mb news dp un gd cn cs a ccd cl outer A₀ base h₀ L m s Q E B F X N T hk hd hu hret
  refine wpAny_call ?_
  k_dflt (refine' code_def (binds := [(Str.ofString "jd", .float x u)]) ?k1 ?k2 ?k3 ?k4 ?k5 ?kA ?kF ?kK ?k6 ?k7 ?k8 ?k9 ?kB ?_ ?c2 ?c3 ?c4 ?c5; (case kA => exact rfl); (case kF => exact rfl); (case kK => assumption); (case k1 => k_asm); (case k2 => k_asm); (case k3 => k_asm); (case k4 => k_asm); (case k5 => k_asm); (case k6 => k_is); (case k7 => k_is); (case k8 => ktr_room); (case k9 => exact BindsTo.of_eq rfl); (case c5 => decide); (case kB => exact locs rfl); (case c2 => exact rfl); (case c3 => exact rfl); (case c4 => exact rfl); k_whole; intro g' L' h' FG' F' N' B' X' T'; (try dsimp only [List.reverse, List.reverseAux]); (try k_lift B'); (try k_fold))
  k_steps
  all_goals (refine hret _ _ _ _ ⟨_, _, _, _, _, _, _, rfl, rfl, ?_⟩ (by k_asm) (by k_asm))
  all_goals first | exact jul_lo' (by assumption) (by assumption) (by omega) (by assumption) (by omega) (by assumption) (by assumption) (by omega) | exact jul_hi' (by assumption) (by assumption) (by omega) (by assumption) (by omega) (by assumption) (by assumption) (by omega)
end Mine
end

section -- C6
open PySem PySem.W PySem.Calls PyProof.Rows PySem.Spec PySem.Flt
namespace Mine
local macro_rules | `(tactic| walk_at "none 0") => `(tactic| skip)
local macro_rules | `(tactic| walk_at "none 1") => `(tactic| skip)
local macro_rules | `(tactic| walk_at "none 2") => `(tactic| skip)
local macro_rules | `(tactic| walk_at "none 3") => `(tactic| skip)
local macro_rules | `(tactic| walk_at "none 4") => `(tactic| skip)
local macro_rules | `(tactic| walk_at "none 5") => `(tactic| skip)
local macro_rules | `(tactic| ktr_rel) => `(tactic| first | with_reducible assumption | exact fx_half | exact fx_greg | exact fx_arm | exact fx_sark | exact fx_copt | exact fx_isl | exact fx_law | exact fx_295 | exact fx_365)
local macro_rules | `(tactic| walk_at "binaryOp Add float float") => `(tactic| (refine s_add_ff (by ktr_rel) (by ktr_rel) (by omega) (by omega) ?_; intro z r e f t; (try dsimp only)))
local macro_rules | `(tactic| walk_at "inplaceOp Add float float") => `(tactic| (refine s_iadd_ff (by ktr_rel) (by ktr_rel) (by omega) (by omega) ?_; intro z r e f t; (try dsimp only)))
local macro_rules | `(tactic| walk_at "binaryOp Sub float float") => `(tactic| (refine s_sub_ff (by ktr_rel) (by ktr_rel) (by omega) (by omega) ?_; intro z r e f t; (try dsimp only)))
local macro_rules | `(tactic| walk_at "binaryOp Add float int") => `(tactic| first
  | (refine s_add_fi rfl (by ktr_rel) (by omega) (by omega) (by omega) (by omega) ?_; intro z r e f t; (try dsimp only))
  | (refine s_add_fi_nr rfl (by with_reducible assumption) (by omega) (by omega) (by omega) (by omega) (by omega) ?_; intro z r e f t; (try dsimp only)))
local macro_rules | `(tactic| walk_at "binaryOp Add int float") => `(tactic| (refine s_add_if rfl (by ktr_rel) (by omega) (by omega) (by omega) (by omega) ?_; intro z r e f t; (try dsimp only)))
local macro_rules | `(tactic| walk_at "binaryOp Sub float int") => `(tactic| (refine s_sub_fi rfl (by ktr_rel) (by omega) (by omega) (by omega) (by omega) ?_; intro z r e f t; (try dsimp only)))
local macro_rules | `(tactic| walk_at "binaryOp Sub int float") => `(tactic| (refine s_sub_if rfl (by ktr_rel) (by omega) (by omega) (by omega) (by omega) ?_; intro z r e f t; (try dsimp only)))
local macro_rules | `(tactic| walk_at "binaryOp Mult float int") => `(tactic| (refine s_mul_fi rfl (by ktr_rel) (by omega) (by omega) (by omega) (by omega) ?_; intro z r e f t; (try dsimp only)))
local macro_rules | `(tactic| walk_at "binaryOp Mult int float") => `(tactic| (refine s_mul_if rfl (by ktr_rel) (by omega) (by omega) (by omega) (by omega) ?_; intro z r e f t; (try dsimp only)))
local macro_rules | `(tactic| walk_at "binaryOp Div float float") => `(tactic| (refine s_div_ff rfl (by ktr_rel) (by ktr_rel) (by omega) (by omega) (by omega) ?_; intro z f t; (try dsimp only)))
local macro_rules | `(tactic| walk_at "binaryOp Div float int") => `(tactic| (refine s_div_fi rfl (by ktr_rel) (by omega) (by omega) (by omega) (by omega) ?_; intro z f t; (try dsimp only)))
local macro_rules | `(tactic| walk_at "binaryOp Div int int") => `(tactic| (refine s_div_ii rfl (by omega) (by omega) (by omega) ?_; intro z f t; (try dsimp only)))
local macro_rules | `(tactic| walk_at "binaryOp Mod float int") => `(tactic| (refine s_mod_fi rfl (by ktr_rel) (by omega) (by omega) (by omega) (by omega) ?_; intro z r e f t; (try dsimp only)))
local macro_rules | `(tactic| walk_at "call builtin:math.floor") => `(tactic| first
  | ((with_reducible show wpAny _ _ (call _ [Value.float _ _]) _ _ _); refine s_floor_fx rfl (by ktr_rel) ?_; intro c e t; (try dsimp only))
  | ((with_reducible show wpAny _ _ (call _ [Value.float _ _]) _ _ _); refine s_floor_nr rfl (by with_reducible assumption) (by omega) (by omega) (by omega) (by omega) ?_; intro c e t; (try dsimp only)))
local macro_rules | `(tactic| walk_at "call builtin:math.ceil") => `(tactic| first
  | ((with_reducible show wpAny _ _ (call _ [Value.float _ _]) _ _ _); refine s_ceil_fx rfl (by ktr_rel) ?_; intro c e t; (try dsimp only))
  | ((with_reducible show wpAny _ _ (call _ [Value.float _ _]) _ _ _); refine s_ceil_nr rfl (by with_reducible assumption) (by omega) (by omega) (by omega) (by omega) ?_; intro c e t; (try dsimp only)))
local macro_rules | `(tactic| walk_at "call builtin:math.trunc") => `(tactic| first
  | ((with_reducible show wpAny _ _ (call _ [Value.float _ _]) _ _ _); refine s_trunc_fx rfl (by ktr_rel) (by omega) ?_; intro c e t; (try dsimp only))
  | ((with_reducible show wpAny _ _ (call _ [Value.float _ _]) _ _ _); refine s_trunc_nr rfl (by with_reducible assumption) (by omega) (by omega) (by omega) (by omega) (by omega) ?_; intro c e t; (try dsimp only)))
local macro_rules | `(tactic| walk_at "call type:int") => `(tactic| ((with_reducible show wpAny _ _ (call _ [Value.float _ _]) _ _ _); refine s_int_fx rfl (by ktr_rel) (by omega) ?_; intro c e t; (try dsimp only)))
local macro_rules | `(tactic| walk_at "compareOp Lt float int") => `(tactic| (refine s_lt_fi (by ktr_rel) ?_; intro b e; (try dsimp only)))
local macro_rules | `(tactic| walk_at "compareOp Eq float int") => `(tactic| (refine s_eq_fi (by ktr_rel) ?_; intro b e; (try dsimp only)))
local macro_rules | `(tactic| walk_at "eval Call") => `(tactic| k_dflt (refine Call_ ?_))
local macro_rules | `(tactic| walk_at "compareOp In int ref") => `(tactic| (k_here; (with_unfolding_all refine' in_tup_K ?k1 ?k2 ?k3 ?k4 ?_); (case k1 => k_asm); (case k2 => k_asm); (case k3 => k_is); (case k4 => repeat constructor); intro b e; (try dsimp only)))
set_option maxRecDepth 100000 in
set_option maxHeartbeats 8000000 in
theorem c_cop_tojd (y : Int) (u u2 u3 : Tok) (hy1 : 0 ≤ y) (hy2 : y ≤ 200000) : Claim 466 4 32 [.int y u, .int 1 u2, .int 1 u3] (GivesF (4 * (1825029 + 365 * (y - 1) + y / 4) + 2)) := by
  unfold Claim
  k_fill
  intro w loose mean mg mb news dp un gd cn cs a ccd cl outer A₀ base h₀ L m s Q E B F X N T hk hd hu hret
  refine wpAny_call ?_
  k_dflt (refine' code_def (binds := [(Str.ofString "year", .int y u), (Str.ofString "month", .int 1 u2), (Str.ofString "day", .int 1 u3)]) ?k1 ?k2 ?k3 ?k4 ?k5 ?kA ?kF ?kK ?k6 ?k7 ?k8 ?k9 ?kB ?_ ?c2 ?c3 ?c4 ?c5; (case kA => exact rfl); (case kF => exact rfl); (case kK => assumption); (case k1 => k_asm); (case k2 => k_asm); (case k3 => k_asm); (case k4 => k_asm); (case k5 => k_asm); (case k6 => k_is); (case k7 => k_is); (case k8 => ktr_room); (case k9 => exact BindsTo.of_eq rfl); (case c5 => decide); (case kB => exact locs rfl); (case c2 => exact rfl); (case c3 => exact rfl); (case c4 => exact rfl); k_whole; intro g' L' h' FG' F' N' B' X' T'; (try dsimp only [List.reverse, List.reverseAux]); (try k_lift B'); (try k_fold))
  k_steps
  all_goals (refine hret _ news _ _ ⟨⟨_, _, rfl, fx_cast ?_ (by with_reducible assumption)⟩, rfl⟩ (by k_asm) (by first | k_asm | (refine' cb_drop ?cbN ?cbS; (case cbN => assumption); (case cbS => kcj_all))))
  all_goals omega
local macro_rules | `(tactic| walk_at "call ref") => `(tactic| ((with_reducible show wpAny _ _ (call (Value.ref 466) _) _ _ _); (with_unfolding_all refine' Claim.use (c_cop_tojd _ _ _ _ (by omega) (by omega)) ?k1 ?k2 ?k3 ?k4 ?k5 ?k6 ?k7 ?k8 ?_); (case k1 => k_asm); (case k2 => k_asm); (case k3 => k_asm); (case k4 => k_asm); (case k5 => k_asm); (case k6 => first | exact rfl | assumption); (case k7 => ktr_room); (case k8 => ktr_units); (intro v9 n9 h9 tk9 p9 F9 N9; obtain ⟨⟨x9, t9, e9, f9⟩, e8⟩ := p9; subst e9; subst e8); (try dsimp only); (try k_fold)))
set_option maxRecDepth 100000 in
set_option maxHeartbeats 8000000 in
theorem c_cop (N : Int) (x : UInt64) (u : Tok) (fx : Fx x (4 * N + 2)) (hN1 : 2117599 ≤ N) (hN2 : N ≤ 30000000) : Claim 473 16 128 [.float x u] (GivesD 3 N) := by
  unfold Claim
  k_fill
  intro w loose mean mg mb news dp un gd cn cs a ccd cl outer A₀ base h₀ L m s Q E B F X N T hk hd hu hret
  refine wpAny_call ?_
  k_dflt (refine' code_def (binds := [(Str.ofString "jdc", .float x u)]) ?k1 ?k2 ?k3 ?k4 ?k5 ?kA ?kF ?kK ?k6 ?k7 ?k8 ?k9 ?kB ?_ ?c2 ?c3 ?c4 ?c5; (case kA => exact rfl); (case kF => exact rfl); (case kK => assumption); (case k1 => k_asm); (case k2 => k_asm); (case k3 => k_asm); (case k4 => k_asm); (case k5 => k_asm); (case k6 => k_is); (case k7 => k_is); (case k8 => ktr_room); (case k9 => exact BindsTo.of_eq rfl); (case c5 => decide); (case kB => exact locs rfl); (case c2 => exact rfl); (case c3 => exact rfl); (case c4 => exact rfl); k_whole; intro g' L' h' FG' F' N' B' X' T'; (try dsimp only [List.reverse, List.reverseAux]); (try k_lift B'); (try k_fold))
  k_steps
  all_goals (refine hret _ _ _ _ ⟨_, _, _, _, _, _, _, rfl, rfl, ?_⟩ (by k_asm) (by k_asm))
  all_goals exact cop_dat (by omega) (by omega) (by omega) (by omega) (by omega)
end Mine
end

section -- C7
open PySem PySem.W PySem.Calls PyProof.Rows PySem.Spec PySem.Flt
namespace Mine
local macro_rules | `(tactic| walk_at "none 0") => `(tactic| skip)
local macro_rules | `(tactic| walk_at "none 1") => `(tactic| skip)
local macro_rules | `(tactic| walk_at "none 2") => `(tactic| skip)
local macro_rules | `(tactic| walk_at "none 3") => `(tactic| skip)
local macro_rules | `(tactic| walk_at "none 4") => `(tactic| skip)
local macro_rules | `(tactic| walk_at "none 5") => `(tactic| skip)
local macro_rules | `(tactic| walk_at "none 6") => `(tactic| skip)
local macro_rules | `(tactic| walk_at "none 7") => `(tactic| skip)
local macro_rules | `(tactic| ktr_rel) => `(tactic| first | with_reducible assumption | exact fx_half | exact fx_greg | exact fx_arm | exact fx_sark | exact fx_copt | exact fx_isl | exact fx_law | exact fx_295 | exact fx_365)
local macro_rules | `(tactic| walk_at "binaryOp Add float float") => `(tactic| (refine s_add_ff (by ktr_rel) (by ktr_rel) (by omega) (by omega) ?_; intro z r e f t; (try dsimp only)))
local macro_rules | `(tactic| walk_at "inplaceOp Add float float") => `(tactic| (refine s_iadd_ff (by ktr_rel) (by ktr_rel) (by omega) (by omega) ?_; intro z r e f t; (try dsimp only)))
local macro_rules | `(tactic| walk_at "binaryOp Sub float float") => `(tactic| (refine s_sub_ff (by ktr_rel) (by ktr_rel) (by omega) (by omega) ?_; intro z r e f t; (try dsimp only)))
local macro_rules | `(tactic| walk_at "binaryOp Add float int") => `(tactic| first
  | (refine s_add_fi rfl (by ktr_rel) (by omega) (by omega) (by omega) (by omega) ?_; intro z r e f t; (try dsimp only))
  | (refine s_add_fi_nr rfl (by with_reducible assumption) (by omega) (by omega) (by omega) (by omega) (by omega) ?_; intro z r e f t; (try dsimp only)))
local macro_rules | `(tactic| walk_at "binaryOp Add int float") => `(tactic| (refine s_add_if rfl (by ktr_rel) (by omega) (by omega) (by omega) (by omega) ?_; intro z r e f t; (try dsimp only)))
local macro_rules | `(tactic| walk_at "binaryOp Sub float int") => `(tactic| (refine s_sub_fi rfl (by ktr_rel) (by omega) (by omega) (by omega) (by omega) ?_; intro z r e f t; (try dsimp only)))
local macro_rules | `(tactic| walk_at "binaryOp Sub int float") => `(tactic| (refine s_sub_if rfl (by ktr_rel) (by omega) (by omega) (by omega) (by omega) ?_; intro z r e f t; (try dsimp only)))
local macro_rules | `(tactic| walk_at "binaryOp Mult float int") => `(tactic| (refine s_mul_fi rfl (by ktr_rel) (by omega) (by omega) (by omega) (by omega) ?_; intro z r e f t; (try dsimp only)))
local macro_rules | `(tactic| walk_at "binaryOp Mult int float") => `(tactic| (refine s_mul_if rfl (by ktr_rel) (by omega) (by omega) (by omega) (by omega) ?_; intro z r e f t; (try dsimp only)))
local macro_rules | `(tactic| walk_at "binaryOp Div float float") => `(tactic| (refine s_div_ff rfl (by ktr_rel) (by ktr_rel) (by omega) (by omega) (by omega) ?_; intro z f t; (try dsimp only)))
local macro_rules | `(tactic| walk_at "binaryOp Div float int") => `(tactic| (refine s_div_fi rfl (by ktr_rel) (by omega) (by omega) (by omega) (by omega) ?_; intro z f t; (try dsimp only)))
local macro_rules | `(tactic| walk_at "binaryOp Div int int") => `(tactic| (refine s_div_ii rfl (by omega) (by omega) (by omega) ?_; intro z f t; (try dsimp only)))
local macro_rules | `(tactic| walk_at "binaryOp Mod float int") => `(tactic| (refine s_mod_fi rfl (by ktr_rel) (by omega) (by omega) (by omega) (by omega) ?_; intro z r e f t; (try dsimp only)))
local macro_rules | `(tactic| walk_at "call builtin:math.floor") => `(tactic| first
  | ((with_reducible show wpAny _ _ (call _ [Value.float _ _]) _ _ _); refine s_floor_fx rfl (by ktr_rel) ?_; intro c e t; (try dsimp only))
  | ((with_reducible show wpAny _ _ (call _ [Value.float _ _]) _ _ _); refine s_floor_nr rfl (by with_reducible assumption) (by omega) (by omega) (by omega) (by omega) ?_; intro c e t; (try dsimp only)))
local macro_rules | `(tactic| walk_at "call builtin:math.ceil") => `(tactic| first
  | ((with_reducible show wpAny _ _ (call _ [Value.float _ _]) _ _ _); refine s_ceil_fx rfl (by ktr_rel) ?_; intro c e t; (try dsimp only))
  | ((with_reducible show wpAny _ _ (call _ [Value.float _ _]) _ _ _); refine s_ceil_nr rfl (by with_reducible assumption) (by omega) (by omega) (by omega) (by omega) ?_; intro c e t; (try dsimp only)))
local macro_rules | `(tactic| walk_at "call builtin:math.trunc") => `(tactic| first
  | ((with_reducible show wpAny _ _ (call _ [Value.float _ _]) _ _ _); refine s_trunc_fx rfl (by ktr_rel) (by omega) ?_; intro c e t; (try dsimp only))
  | ((with_reducible show wpAny _ _ (call _ [Value.float _ _]) _ _ _); refine s_trunc_nr rfl (by with_reducible assumption) (by omega) (by omega) (by omega) (by omega) (by omega) ?_; intro c e t; (try dsimp only)))
local macro_rules | `(tactic| walk_at "call type:int") => `(tactic| ((with_reducible show wpAny _ _ (call _ [Value.float _ _]) _ _ _); refine s_int_fx rfl (by ktr_rel) (by omega) ?_; intro c e t; (try dsimp only)))
local macro_rules | `(tactic| walk_at "compareOp Lt float int") => `(tactic| (refine s_lt_fi (by ktr_rel) ?_; intro b e; (try dsimp only)))
local macro_rules | `(tactic| walk_at "compareOp Eq float int") => `(tactic| (refine s_eq_fi (by ktr_rel) ?_; intro b e; (try dsimp only)))
local macro_rules | `(tactic| walk_at "eval Call") => `(tactic| k_dflt (refine Call_ ?_))
local macro_rules | `(tactic| walk_at "compareOp In int ref") => `(tactic| (k_here; (with_unfolding_all refine' in_tup_K ?k1 ?k2 ?k3 ?k4 ?_); (case k1 => k_asm); (case k2 => k_asm); (case k3 => k_is); (case k4 => repeat constructor); intro b e; (try dsimp only)))
set_option maxRecDepth 100000 in
set_option maxHeartbeats 8000000 in
theorem c_isl_tojd (y mm : Int) (u u2 u3 : Tok) (hy1 : 0 ≤ y) (hy2 : y ≤ 200000) (hm1 : 1 ≤ mm) (hm2 : mm ≤ 12) : Claim 495 4 32 [.int y u, .int mm u2, .int 1 u3] (GivesF (4 * (1948439 + (59 * (mm - 1) + 1) / 2 + (y - 1) * 354 + (3 + 11 * y) / 30) + 2)) := by
  unfold Claim
  k_fill
  intro w loose mean mg mb news dp un gd cn cs a ccd cl outer A₀ base h₀ L m s Q E B F X N T hk hd hu hret
  refine wpAny_call ?_
  k_dflt (refine' code_def (binds := [(Str.ofString "year", .int y u), (Str.ofString "month", .int mm u2), (Str.ofString "day", .int 1 u3)]) ?k1 ?k2 ?k3 ?k4 ?k5 ?kA ?kF ?kK ?k6 ?k7 ?k8 ?k9 ?kB ?_ ?c2 ?c3 ?c4 ?c5; (case kA => exact rfl); (case kF => exact rfl); (case kK => assumption); (case k1 => k_asm); (case k2 => k_asm); (case k3 => k_asm); (case k4 => k_asm); (case k5 => k_asm); (case k6 => k_is); (case k7 => k_is); (case k8 => ktr_room); (case k9 => exact BindsTo.of_eq rfl); (case c5 => decide); (case kB => exact locs rfl); (case c2 => exact rfl); (case c3 => exact rfl); (case c4 => exact rfl); k_whole; intro g' L' h' FG' F' N' B' X' T'; (try dsimp only [List.reverse, List.reverseAux]); (try k_lift B'); (try k_fold))
  k_steps
  all_goals (refine hret _ news _ _ ⟨⟨_, _, rfl, fx_cast ?_ (by with_reducible assumption)⟩, rfl⟩ (by k_asm) (by first | k_asm | (refine' cb_drop ?cbN ?cbS; (case cbN => assumption); (case cbS => kcj_all))))
  all_goals omega
local macro_rules | `(tactic| walk_at "call ref") => `(tactic| ((with_reducible show wpAny _ _ (call (Value.ref 495) _) _ _ _); (with_unfolding_all refine' Claim.use (c_isl_tojd _ _ _ _ _ (by omega) (by omega) (by omega) (by omega)) ?k1 ?k2 ?k3 ?k4 ?k5 ?k6 ?k7 ?k8 ?_); (case k1 => k_asm); (case k2 => k_asm); (case k3 => k_asm); (case k4 => k_asm); (case k5 => k_asm); (case k6 => first | exact rfl | assumption); (case k7 => ktr_room); (case k8 => ktr_units); (intro v9 n9 h9 tk9 p9 F9 N9; obtain ⟨⟨x9, t9, e9, f9⟩, e8⟩ := p9; subst e9; subst e8); (try dsimp only); (try k_fold)))
set_option maxRecDepth 100000 in
set_option maxHeartbeats 8000000 in
theorem c_isl (N : Int) (x : UInt64) (u : Tok) (fx : Fx x (4 * N + 2)) (hN1 : 2117599 ≤ N) (hN2 : N ≤ 30000000) : Claim 502 16 128 [.float x u] (GivesD 2 N) := by
  unfold Claim
  k_fill
  intro w loose mean mg mb news dp un gd cn cs a ccd cl outer A₀ base h₀ L m s Q E B F X N T hk hd hu hret
  refine wpAny_call ?_
  k_dflt (refine' code_def (binds := [(Str.ofString "jd", .float x u)]) ?k1 ?k2 ?k3 ?k4 ?k5 ?kA ?kF ?kK ?k6 ?k7 ?k8 ?k9 ?kB ?_ ?c2 ?c3 ?c4 ?c5; (case kA => exact rfl); (case kF => exact rfl); (case kK => assumption); (case k1 => k_asm); (case k2 => k_asm); (case k3 => k_asm); (case k4 => k_asm); (case k5 => k_asm); (case k6 => k_is); (case k7 => k_is); (case k8 => ktr_room); (case k9 => exact BindsTo.of_eq rfl); (case c5 => decide); (case kB => exact locs rfl); (case c2 => exact rfl); (case c3 => exact rfl); (case c4 => exact rfl); k_whole; intro g' L' h' FG' F' N' B' X' T'; (try dsimp only [List.reverse, List.reverseAux]); (try k_lift B'); (try k_fold))
  k_steps
  all_goals (refine hret _ _ _ _ ⟨_, _, _, _, _, _, _, rfl, rfl, ?_⟩ (by k_asm) (by k_asm))
  all_goals exact isl_dat (by omega) (by omega) (by omega) rfl (by omega) (by omega)
end Mine
end

section -- SA
open PySem PySem.W PySem.Calls PyProof.Rows PySem.Spec PySem.Flt
namespace Mine
section
variable {prog : Program} {w : World} {A : Around} {E : Value → Shared → Prop} {s : Shared} {x : UInt64} {p n : Int} {t u : Tok} {Q : Value → Shared → Prop}
theorem s_lt_no (hx : Fx x p) (h : ¬ p < 4 * n) (k : Q (.bool false) s) : wpAny (model prog w) A (compareOp .Lt (.float x t) (.int n u)) Q E s :=
  lt_fi (by rw [fx_lt hx, decide_eq_false h]; exact k)
theorem s_eq_split (hx : Fx x p) (k1 : p = 4 * n → Q (.bool true) s) (k2 : ¬ p = 4 * n → Q (.bool false) s) : wpAny (model prog w) A (compareOp .Eq (.float x t) (.int n u)) Q E s := by
  refine eq_fi ?_
  rw [fx_eq hx]
  by_cases h : p = 4 * n
  · rw [decide_eq_true h]; exact k1 h
  · rw [decide_eq_false h]; exact k2 h
end
theorem sark1 {N q m d : Int} (h1 : 2117599 ≤ N) (h2 : N ≤ 30000000) (hf : q.fmod 4 = 0) (hq : q = 4 * (N - 2117210) / 1461) (hz : N - 2117210 - (365 * q + q / 4) = 0) (hm : m = (366 - 1) / 30 + 1) (hd : d = 366 - 30 * (m - 1)) : Dat 5 N (q - 1 + 533) m d := by
  rw [Int.fmod_eq_emod_of_nonneg _ (by decide)] at hf
  exact sark_lo h1 (by omega) hq hz rfl (by rw [if_pos hf]; exact hm) (by rw [if_pos hf]; exact hd)
theorem sark2 {N q m d : Int} (h1 : 2117599 ≤ N) (h2 : N ≤ 30000000) (hf : q.fmod 4 ≠ 0) (hq : q = 4 * (N - 2117210) / 1461) (hz : N - 2117210 - (365 * q + q / 4) = 0) (hm : m = (365 - 1) / 30 + 1) (hd : d = 365 - 30 * (m - 1)) : Dat 5 N (q - 1 + 533) m d := by
  rw [Int.fmod_eq_emod_of_nonneg _ (by decide)] at hf
  exact sark_lo h1 (by omega) hq hz rfl (by rw [if_neg hf]; exact hm) (by rw [if_neg hf]; exact hd)
end Mine
end

section -- C8
open PySem PySem.W PySem.Calls PyProof.Rows PySem.Spec PySem.Flt
namespace Mine
local macro_rules | `(tactic| walk_at "none 0") => `(tactic| skip)
local macro_rules | `(tactic| walk_at "none 1") => `(tactic| skip)
local macro_rules | `(tactic| ktr_rel) => `(tactic| first | with_reducible assumption | exact fx_half | exact fx_greg | exact fx_arm | exact fx_sark | exact fx_copt | exact fx_isl | exact fx_law | exact fx_295 | exact fx_365)
local macro_rules | `(tactic| walk_at "binaryOp Add float float") => `(tactic| (refine s_add_ff (by ktr_rel) (by ktr_rel) (by omega) (by omega) ?_; intro z r e f t; (try dsimp only)))
local macro_rules | `(tactic| walk_at "inplaceOp Add float float") => `(tactic| (refine s_iadd_ff (by ktr_rel) (by ktr_rel) (by omega) (by omega) ?_; intro z r e f t; (try dsimp only)))
local macro_rules | `(tactic| walk_at "binaryOp Sub float float") => `(tactic| (refine s_sub_ff (by ktr_rel) (by ktr_rel) (by omega) (by omega) ?_; intro z r e f t; (try dsimp only)))
local macro_rules | `(tactic| walk_at "binaryOp Add float int") => `(tactic| first
  | (refine s_add_fi rfl (by ktr_rel) (by omega) (by omega) (by omega) (by omega) ?_; intro z r e f t; (try dsimp only))
  | (refine s_add_fi_nr rfl (by with_reducible assumption) (by omega) (by omega) (by omega) (by omega) (by omega) ?_; intro z r e f t; (try dsimp only)))
local macro_rules | `(tactic| walk_at "binaryOp Add int float") => `(tactic| (refine s_add_if rfl (by ktr_rel) (by omega) (by omega) (by omega) (by omega) ?_; intro z r e f t; (try dsimp only)))
local macro_rules | `(tactic| walk_at "binaryOp Sub float int") => `(tactic| (refine s_sub_fi rfl (by ktr_rel) (by omega) (by omega) (by omega) (by omega) ?_; intro z r e f t; (try dsimp only)))
local macro_rules | `(tactic| walk_at "binaryOp Sub int float") => `(tactic| (refine s_sub_if rfl (by ktr_rel) (by omega) (by omega) (by omega) (by omega) ?_; intro z r e f t; (try dsimp only)))
local macro_rules | `(tactic| walk_at "binaryOp Mult float int") => `(tactic| (refine s_mul_fi rfl (by ktr_rel) (by omega) (by omega) (by omega) (by omega) ?_; intro z r e f t; (try dsimp only)))
local macro_rules | `(tactic| walk_at "binaryOp Mult int float") => `(tactic| (refine s_mul_if rfl (by ktr_rel) (by omega) (by omega) (by omega) (by omega) ?_; intro z r e f t; (try dsimp only)))
local macro_rules | `(tactic| walk_at "binaryOp Div float float") => `(tactic| (refine s_div_ff rfl (by ktr_rel) (by ktr_rel) (by omega) (by omega) (by omega) ?_; intro z f t; (try dsimp only)))
local macro_rules | `(tactic| walk_at "binaryOp Div float int") => `(tactic| (refine s_div_fi rfl (by ktr_rel) (by omega) (by omega) (by omega) (by omega) ?_; intro z f t; (try dsimp only)))
local macro_rules | `(tactic| walk_at "binaryOp Div int int") => `(tactic| (refine s_div_ii rfl (by omega) (by omega) (by omega) ?_; intro z f t; (try dsimp only)))
local macro_rules | `(tactic| walk_at "binaryOp Mod float int") => `(tactic| (refine s_mod_fi rfl (by ktr_rel) (by omega) (by omega) (by omega) (by omega) ?_; intro z r e f t; (try dsimp only)))
local macro_rules | `(tactic| walk_at "call builtin:math.floor") => `(tactic| first
  | ((with_reducible show wpAny _ _ (call _ [Value.float _ _]) _ _ _); refine s_floor_fx rfl (by ktr_rel) ?_; intro c e t; (try dsimp only))
  | ((with_reducible show wpAny _ _ (call _ [Value.float _ _]) _ _ _); refine s_floor_nr rfl (by with_reducible assumption) (by omega) (by omega) (by omega) (by omega) ?_; intro c e t; (try dsimp only)))
local macro_rules | `(tactic| walk_at "call builtin:math.ceil") => `(tactic| first
  | ((with_reducible show wpAny _ _ (call _ [Value.float _ _]) _ _ _); refine s_ceil_fx rfl (by ktr_rel) ?_; intro c e t; (try dsimp only))
  | ((with_reducible show wpAny _ _ (call _ [Value.float _ _]) _ _ _); refine s_ceil_nr rfl (by with_reducible assumption) (by omega) (by omega) (by omega) (by omega) ?_; intro c e t; (try dsimp only)))
local macro_rules | `(tactic| walk_at "call builtin:math.trunc") => `(tactic| first
  | ((with_reducible show wpAny _ _ (call _ [Value.float _ _]) _ _ _); refine s_trunc_fx rfl (by ktr_rel) (by omega) ?_; intro c e t; (try dsimp only))
  | ((with_reducible show wpAny _ _ (call _ [Value.float _ _]) _ _ _); refine s_trunc_nr rfl (by with_reducible assumption) (by omega) (by omega) (by omega) (by omega) (by omega) ?_; intro c e t; (try dsimp only)))
local macro_rules | `(tactic| walk_at "call type:int") => `(tactic| ((with_reducible show wpAny _ _ (call _ [Value.float _ _]) _ _ _); refine s_int_fx rfl (by ktr_rel) (by omega) ?_; intro c e t; (try dsimp only)))
local macro_rules | `(tactic| walk_at "compareOp Lt float int") => `(tactic| (refine s_lt_fi (by ktr_rel) ?_; intro b e; (try dsimp only)))
local macro_rules | `(tactic| walk_at "compareOp Eq float int") => `(tactic| (refine s_eq_fi (by ktr_rel) ?_; intro b e; (try dsimp only)))
local macro_rules | `(tactic| walk_at "eval Call") => `(tactic| k_dflt (refine Call_ ?_))
local macro_rules | `(tactic| walk_at "compareOp In int ref") => `(tactic| (k_here; (with_unfolding_all refine' in_tup_K ?k1 ?k2 ?k3 ?k4 ?_); (case k1 => k_asm); (case k2 => k_asm); (case k3 => k_is); (case k4 => repeat constructor); intro b e; (try dsimp only)))
local macro_rules | `(tactic| walk_at "compareOp Lt float int") => `(tactic| refine s_lt_no (by ktr_rel) (by omega) ?_)
local macro_rules | `(tactic| walk_at "compareOp Eq float int") => `(tactic| (refine s_eq_split (by ktr_rel) ?_ ?_ <;> intro e))
set_option maxRecDepth 100000 in
set_option maxHeartbeats 8000000 in
theorem c_arm (N : Int) (x : UInt64) (u : Tok) (fx : Fx x (4 * N + 2)) (hN1 : 2117599 ≤ N) (hN2 : N ≤ 30000000) : Claim 444 16 128 [.float x u] (GivesD 4 N) := by
  unfold Claim
  k_fill
  intro w loose mean mg mb news dp un gd cn cs a ccd cl outer A₀ base h₀ L m s Q E B F X N T hk hd hu hret
  refine wpAny_call ?_
  k_dflt (refine' code_def (binds := [(Str.ofString "jd", .float x u), (Str.ofString "method", .none)]) ?k1 ?k2 ?k3 ?k4 ?k5 ?kA ?kF ?kK ?k6 ?k7 ?k8 ?k9 ?kB ?_ ?c2 ?c3 ?c4 ?c5; (case kA => exact rfl); (case kF => exact rfl); (case kK => assumption); (case k1 => k_asm); (case k2 => k_asm); (case k3 => k_asm); (case k4 => k_asm); (case k5 => k_asm); (case k6 => k_is); (case k7 => k_is); (case k8 => ktr_room); (case k9 => exact binds_K (by k_in) rfl (by k_is) rfl rfl rfl); (case c5 => decide); (case kB => exact locs rfl); (case c2 => exact rfl); (case c3 => exact rfl); (case c4 => exact rfl); k_whole; intro g' L' h' FG' F' N' B' X' T'; (try dsimp only [List.reverse, List.reverseAux]); (try k_lift B'); (try k_fold))
  k_steps
  all_goals (refine hret _ _ _ _ ⟨_, _, _, _, _, _, _, rfl, rfl, ?_⟩ (by k_asm) (by k_asm))
  all_goals exact arm_dat (by omega) (by omega) (by omega) (by omega) (by omega)
end Mine
end

section -- C9
open PySem PySem.W PySem.Calls PyProof.Rows PySem.Spec PySem.Flt
namespace Mine
local macro_rules | `(tactic| walk_at "none 0") => `(tactic| skip)
local macro_rules | `(tactic| walk_at "none 1") => `(tactic| skip)
local macro_rules | `(tactic| walk_at "none 2") => `(tactic| skip)
local macro_rules | `(tactic| walk_at "none 3") => `(tactic| skip)
local macro_rules | `(tactic| walk_at "none 4") => `(tactic| skip)
local macro_rules | `(tactic| walk_at "none 5") => `(tactic| skip)
local macro_rules | `(tactic| walk_at "none 6") => `(tactic| skip)
local macro_rules | `(tactic| walk_at "none 7") => `(tactic| skip)
local macro_rules | `(tactic| ktr_rel) => `(tactic| first | with_reducible assumption | exact fx_half | exact fx_greg | exact fx_arm | exact fx_sark | exact fx_copt | exact fx_isl | exact fx_law | exact fx_295 | exact fx_365)
local macro_rules | `(tactic| walk_at "binaryOp Add float float") => `(tactic| (refine s_add_ff (by ktr_rel) (by ktr_rel) (by omega) (by omega) ?_; intro z r e f t; (try dsimp only)))
local macro_rules | `(tactic| walk_at "inplaceOp Add float float") => `(tactic| (refine s_iadd_ff (by ktr_rel) (by ktr_rel) (by omega) (by omega) ?_; intro z r e f t; (try dsimp only)))
local macro_rules | `(tactic| walk_at "binaryOp Sub float float") => `(tactic| (refine s_sub_ff (by ktr_rel) (by ktr_rel) (by omega) (by omega) ?_; intro z r e f t; (try dsimp only)))
local macro_rules | `(tactic| walk_at "binaryOp Add float int") => `(tactic| first
  | (refine s_add_fi rfl (by ktr_rel) (by omega) (by omega) (by omega) (by omega) ?_; intro z r e f t; (try dsimp only))
  | (refine s_add_fi_nr rfl (by with_reducible assumption) (by omega) (by omega) (by omega) (by omega) (by omega) ?_; intro z r e f t; (try dsimp only)))
local macro_rules | `(tactic| walk_at "binaryOp Add int float") => `(tactic| (refine s_add_if rfl (by ktr_rel) (by omega) (by omega) (by omega) (by omega) ?_; intro z r e f t; (try dsimp only)))
local macro_rules | `(tactic| walk_at "binaryOp Sub float int") => `(tactic| (refine s_sub_fi rfl (by ktr_rel) (by omega) (by omega) (by omega) (by omega) ?_; intro z r e f t; (try dsimp only)))
local macro_rules | `(tactic| walk_at "binaryOp Sub int float") => `(tactic| (refine s_sub_if rfl (by ktr_rel) (by omega) (by omega) (by omega) (by omega) ?_; intro z r e f t; (try dsimp only)))
local macro_rules | `(tactic| walk_at "binaryOp Mult float int") => `(tactic| (refine s_mul_fi rfl (by ktr_rel) (by omega) (by omega) (by omega) (by omega) ?_; intro z r e f t; (try dsimp only)))
local macro_rules | `(tactic| walk_at "binaryOp Mult int float") => `(tactic| (refine s_mul_if rfl (by ktr_rel) (by omega) (by omega) (by omega) (by omega) ?_; intro z r e f t; (try dsimp only)))
local macro_rules | `(tactic| walk_at "binaryOp Div float float") => `(tactic| (refine s_div_ff rfl (by ktr_rel) (by ktr_rel) (by omega) (by omega) (by omega) ?_; intro z f t; (try dsimp only)))
local macro_rules | `(tactic| walk_at "binaryOp Div float int") => `(tactic| (refine s_div_fi rfl (by ktr_rel) (by omega) (by omega) (by omega) (by omega) ?_; intro z f t; (try dsimp only)))
local macro_rules | `(tactic| walk_at "binaryOp Div int int") => `(tactic| (refine s_div_ii rfl (by omega) (by omega) (by omega) ?_; intro z f t; (try dsimp only)))
local macro_rules | `(tactic| walk_at "binaryOp Mod float int") => `(tactic| (refine s_mod_fi rfl (by ktr_rel) (by omega) (by omega) (by omega) (by omega) ?_; intro z r e f t; (try dsimp only)))
local macro_rules | `(tactic| walk_at "call builtin:math.floor") => `(tactic| first
  | ((with_reducible show wpAny _ _ (call _ [Value.float _ _]) _ _ _); refine s_floor_fx rfl (by ktr_rel) ?_; intro c e t; (try dsimp only))
  | ((with_reducible show wpAny _ _ (call _ [Value.float _ _]) _ _ _); refine s_floor_nr rfl (by with_reducible assumption) (by omega) (by omega) (by omega) (by omega) ?_; intro c e t; (try dsimp only)))
local macro_rules | `(tactic| walk_at "call builtin:math.ceil") => `(tactic| first
  | ((with_reducible show wpAny _ _ (call _ [Value.float _ _]) _ _ _); refine s_ceil_fx rfl (by ktr_rel) ?_; intro c e t; (try dsimp only))
  | ((with_reducible show wpAny _ _ (call _ [Value.float _ _]) _ _ _); refine s_ceil_nr rfl (by with_reducible assumption) (by omega) (by omega) (by omega) (by omega) ?_; intro c e t; (try dsimp only)))
local macro_rules | `(tactic| walk_at "call builtin:math.trunc") => `(tactic| first
  | ((with_reducible show wpAny _ _ (call _ [Value.float _ _]) _ _ _); refine s_trunc_fx rfl (by ktr_rel) (by omega) ?_; intro c e t; (try dsimp only))
  | ((with_reducible show wpAny _ _ (call _ [Value.float _ _]) _ _ _); refine s_trunc_nr rfl (by with_reducible assumption) (by omega) (by omega) (by omega) (by omega) (by omega) ?_; intro c e t; (try dsimp only)))
local macro_rules | `(tactic| walk_at "call type:int") => `(tactic| ((with_reducible show wpAny _ _ (call _ [Value.float _ _]) _ _ _); refine s_int_fx rfl (by ktr_rel) (by omega) ?_; intro c e t; (try dsimp only)))
local macro_rules | `(tactic| walk_at "compareOp Lt float int") => `(tactic| (refine s_lt_fi (by ktr_rel) ?_; intro b e; (try dsimp only)))
local macro_rules | `(tactic| walk_at "compareOp Eq float int") => `(tactic| (refine s_eq_fi (by ktr_rel) ?_; intro b e; (try dsimp only)))
local macro_rules | `(tactic| walk_at "eval Call") => `(tactic| k_dflt (refine Call_ ?_))
local macro_rules | `(tactic| walk_at "compareOp In int ref") => `(tactic| (k_here; (with_unfolding_all refine' in_tup_K ?k1 ?k2 ?k3 ?k4 ?_); (case k1 => k_asm); (case k2 => k_asm); (case k3 => k_is); (case k4 => repeat constructor); intro b e; (try dsimp only)))
local macro_rules | `(tactic| walk_at "compareOp Lt float int") => `(tactic| refine s_lt_no (by ktr_rel) (by omega) ?_)
local macro_rules | `(tactic| walk_at "compareOp Eq float int") => `(tactic| (refine s_eq_split (by ktr_rel) ?_ ?_ <;> intro e))
set_option maxRecDepth 100000 in
set_option maxHeartbeats 8000000 in
theorem c_sark (N : Int) (x : UInt64) (u u2 : Tok) (fx : Fx x (4 * N + 2)) (hN1 : 2117599 ≤ N) (hN2 : N ≤ 30000000) : Claim 444 16 128 [.float x u, .str (Str.ofString "sarkawag") u2] (GivesD 5 N) := by
  unfold Claim
  k_fill
  intro w loose mean mg mb news dp un gd cn cs a ccd cl outer A₀ base h₀ L m s Q E B F X N T hk hd hu hret
  refine wpAny_call ?_
  k_dflt (refine' code_def (binds := [(Str.ofString "jd", .float x u), (Str.ofString "method", .str (Str.ofString "sarkawag") u2)]) ?k1 ?k2 ?k3 ?k4 ?k5 ?kA ?kF ?kK ?k6 ?k7 ?k8 ?k9 ?kB ?_ ?c2 ?c3 ?c4 ?c5; (case kA => exact rfl); (case kF => exact rfl); (case kK => assumption); (case k1 => k_asm); (case k2 => k_asm); (case k3 => k_asm); (case k4 => k_asm); (case k5 => k_asm); (case k6 => k_is); (case k7 => k_is); (case k8 => ktr_room); (case k9 => exact binds_K (by k_in) rfl (by k_is) rfl rfl rfl); (case c5 => decide); (case kB => exact locs rfl); (case c2 => exact rfl); (case c3 => exact rfl); (case c4 => exact rfl); k_whole; intro g' L' h' FG' F' N' B' X' T'; (try dsimp only [List.reverse, List.reverseAux]); (try k_lift B'); (try k_fold))
  k_steps
  all_goals (refine hret _ _ _ _ ⟨_, _, _, _, _, _, _, rfl, rfl, ?_⟩ (by k_asm) (by k_asm))
  all_goals first
    | exact sark1 (by assumption) (by assumption) (by assumption) (by omega) (by omega) (by omega) (by omega)
    | exact sark2 (by assumption) (by assumption) (by assumption) (by omega) (by omega) (by omega) (by omega)
    | exact sark_hi (q := _) (by omega) (by omega) (by omega) (by omega) rfl (by omega) (by omega)
end Mine
end

section -- SL
open PySem PySem.W PySem.Calls PyProof.Rows PySem.Spec PySem.Flt
namespace Mine
section
variable {prog : Program} {w : World} {A : Around} {E : Value → Shared → Prop} {s : Shared} {K : Frag} {h₀ : Heap} {L : Addr} {m : Str → Option Value}
theorem in_tup4 {a : Addr} {x n1 n2 n3 n4 : Int} {u t1 t2 t3 t4 : Tok} {Q : Value → Shared → Prop} (X : K.In h₀) (F : Fr h₀ L s.heap m)
    (ho : K.lookup a = some { cls := .type "tuple", data := .seq #[.int n1 t1, .int n2 t2, .int n3 t3, .int n4 t4] })
    (k1 : (x = n1 ∨ x = n2 ∨ x = n3 ∨ x = n4) → Q (.bool true) s) (k2 : ¬ (x = n1 ∨ x = n2 ∨ x = n3 ∨ x = n4) → Q (.bool false) s) : wpAny (model prog w) A (compareOp .In (.int x u) (.ref a)) Q E s :=
  in_tup_K (ns := [n1, n2, n3, n4]) X F ho (by repeat constructor) fun b e => by
    by_cases h : x = n1 ∨ x = n2 ∨ x = n3 ∨ x = n4
    · have : b = true := by rw [e]; simp; omega
      rw [this]; exact k1 h
    · have : b = false := by rw [e]; simp; omega
      rw [this]; exact k2 h
theorem in_tup6 {a : Addr} {x n1 n2 n3 n4 n5 n6 : Int} {u t1 t2 t3 t4 t5 t6 : Tok} {Q : Value → Shared → Prop} (X : K.In h₀) (F : Fr h₀ L s.heap m)
    (ho : K.lookup a = some { cls := .type "tuple", data := .seq #[.int n1 t1, .int n2 t2, .int n3 t3, .int n4 t4, .int n5 t5, .int n6 t6] })
    (k1 : (x = n1 ∨ x = n2 ∨ x = n3 ∨ x = n4 ∨ x = n5 ∨ x = n6) → Q (.bool true) s) (k2 : ¬ (x = n1 ∨ x = n2 ∨ x = n3 ∨ x = n4 ∨ x = n5 ∨ x = n6) → Q (.bool false) s) : wpAny (model prog w) A (compareOp .In (.int x u) (.ref a)) Q E s :=
  in_tup_K (ns := [n1, n2, n3, n4, n5, n6]) X F ho (by repeat constructor) fun b e => by
    by_cases h : x = n1 ∨ x = n2 ∨ x = n3 ∨ x = n4 ∨ x = n5 ∨ x = n6
    · have : b = true := by rw [e]; simp; omega
      rw [this]; exact k1 h
    · have : b = false := by rw [e]; simp; omega
      rw [this]; exact k2 h
end
theorem int_eq {a b : Int} {t : Tok} (h : a = b) : ∃ t', Value.int a t = Value.int b t' := ⟨t, by rw [h]⟩
/-- a month's length comes back -/
abbrev GivesI (n : Int) : List (Addr × Obj) → Value → List (Addr × Obj) → Prop := fun news v news' => (∃ t, v = .int n t) ∧ news = news'
end Mine
end

section -- C10
open PySem PySem.W PySem.Calls PyProof.Rows PySem.Spec PySem.Flt
namespace Mine
local macro_rules | `(tactic| walk_at "none 0") => `(tactic| skip)
local macro_rules | `(tactic| walk_at "none 1") => `(tactic| skip)
local macro_rules | `(tactic| walk_at "none 2") => `(tactic| skip)
local macro_rules | `(tactic| walk_at "none 3") => `(tactic| skip)
local macro_rules | `(tactic| walk_at "none 4") => `(tactic| skip)
local macro_rules | `(tactic| walk_at "none 5") => `(tactic| skip)
local macro_rules | `(tactic| walk_at "none 6") => `(tactic| skip)
local macro_rules | `(tactic| walk_at "none 7") => `(tactic| skip)
local macro_rules | `(tactic| walk_at "none 8") => `(tactic| skip)
local macro_rules | `(tactic| ktr_rel) => `(tactic| first | with_reducible assumption | exact fx_half | exact fx_greg | exact fx_arm | exact fx_sark | exact fx_copt | exact fx_isl | exact fx_law | exact fx_295 | exact fx_365)
local macro_rules | `(tactic| walk_at "binaryOp Add float float") => `(tactic| (refine s_add_ff (by ktr_rel) (by ktr_rel) (by omega) (by omega) ?_; intro z r e f t; (try dsimp only)))
local macro_rules | `(tactic| walk_at "inplaceOp Add float float") => `(tactic| (refine s_iadd_ff (by ktr_rel) (by ktr_rel) (by omega) (by omega) ?_; intro z r e f t; (try dsimp only)))
local macro_rules | `(tactic| walk_at "binaryOp Sub float float") => `(tactic| (refine s_sub_ff (by ktr_rel) (by ktr_rel) (by omega) (by omega) ?_; intro z r e f t; (try dsimp only)))
local macro_rules | `(tactic| walk_at "binaryOp Add float int") => `(tactic| first
  | (refine s_add_fi rfl (by ktr_rel) (by omega) (by omega) (by omega) (by omega) ?_; intro z r e f t; (try dsimp only))
  | (refine s_add_fi_nr rfl (by with_reducible assumption) (by omega) (by omega) (by omega) (by omega) (by omega) ?_; intro z r e f t; (try dsimp only)))
local macro_rules | `(tactic| walk_at "binaryOp Add int float") => `(tactic| (refine s_add_if rfl (by ktr_rel) (by omega) (by omega) (by omega) (by omega) ?_; intro z r e f t; (try dsimp only)))
local macro_rules | `(tactic| walk_at "binaryOp Sub float int") => `(tactic| (refine s_sub_fi rfl (by ktr_rel) (by omega) (by omega) (by omega) (by omega) ?_; intro z r e f t; (try dsimp only)))
local macro_rules | `(tactic| walk_at "binaryOp Sub int float") => `(tactic| (refine s_sub_if rfl (by ktr_rel) (by omega) (by omega) (by omega) (by omega) ?_; intro z r e f t; (try dsimp only)))
local macro_rules | `(tactic| walk_at "binaryOp Mult float int") => `(tactic| (refine s_mul_fi rfl (by ktr_rel) (by omega) (by omega) (by omega) (by omega) ?_; intro z r e f t; (try dsimp only)))
local macro_rules | `(tactic| walk_at "binaryOp Mult int float") => `(tactic| (refine s_mul_if rfl (by ktr_rel) (by omega) (by omega) (by omega) (by omega) ?_; intro z r e f t; (try dsimp only)))
local macro_rules | `(tactic| walk_at "binaryOp Div float float") => `(tactic| (refine s_div_ff rfl (by ktr_rel) (by ktr_rel) (by omega) (by omega) (by omega) ?_; intro z f t; (try dsimp only)))
local macro_rules | `(tactic| walk_at "binaryOp Div float int") => `(tactic| (refine s_div_fi rfl (by ktr_rel) (by omega) (by omega) (by omega) (by omega) ?_; intro z f t; (try dsimp only)))
local macro_rules | `(tactic| walk_at "binaryOp Div int int") => `(tactic| (refine s_div_ii rfl (by omega) (by omega) (by omega) ?_; intro z f t; (try dsimp only)))
local macro_rules | `(tactic| walk_at "binaryOp Mod float int") => `(tactic| (refine s_mod_fi rfl (by ktr_rel) (by omega) (by omega) (by omega) (by omega) ?_; intro z r e f t; (try dsimp only)))
local macro_rules | `(tactic| walk_at "call builtin:math.floor") => `(tactic| first
  | ((with_reducible show wpAny _ _ (call _ [Value.float _ _]) _ _ _); refine s_floor_fx rfl (by ktr_rel) ?_; intro c e t; (try dsimp only))
  | ((with_reducible show wpAny _ _ (call _ [Value.float _ _]) _ _ _); refine s_floor_nr rfl (by with_reducible assumption) (by omega) (by omega) (by omega) (by omega) ?_; intro c e t; (try dsimp only)))
local macro_rules | `(tactic| walk_at "call builtin:math.ceil") => `(tactic| first
  | ((with_reducible show wpAny _ _ (call _ [Value.float _ _]) _ _ _); refine s_ceil_fx rfl (by ktr_rel) ?_; intro c e t; (try dsimp only))
  | ((with_reducible show wpAny _ _ (call _ [Value.float _ _]) _ _ _); refine s_ceil_nr rfl (by with_reducible assumption) (by omega) (by omega) (by omega) (by omega) ?_; intro c e t; (try dsimp only)))
local macro_rules | `(tactic| walk_at "call builtin:math.trunc") => `(tactic| first
  | ((with_reducible show wpAny _ _ (call _ [Value.float _ _]) _ _ _); refine s_trunc_fx rfl (by ktr_rel) (by omega) ?_; intro c e t; (try dsimp only))
  | ((with_reducible show wpAny _ _ (call _ [Value.float _ _]) _ _ _); refine s_trunc_nr rfl (by with_reducible assumption) (by omega) (by omega) (by omega) (by omega) (by omega) ?_; intro c e t; (try dsimp only)))
local macro_rules | `(tactic| walk_at "call type:int") => `(tactic| ((with_reducible show wpAny _ _ (call _ [Value.float _ _]) _ _ _); refine s_int_fx rfl (by ktr_rel) (by omega) ?_; intro c e t; (try dsimp only)))
local macro_rules | `(tactic| walk_at "compareOp Lt float int") => `(tactic| (refine s_lt_fi (by ktr_rel) ?_; intro b e; (try dsimp only)))
local macro_rules | `(tactic| walk_at "compareOp Eq float int") => `(tactic| (refine s_eq_fi (by ktr_rel) ?_; intro b e; (try dsimp only)))
local macro_rules | `(tactic| walk_at "eval Call") => `(tactic| k_dflt (refine Call_ ?_))
local macro_rules | `(tactic| walk_at "compareOp In int ref") => `(tactic| (k_here; (with_unfolding_all refine' in_tup_K ?k1 ?k2 ?k3 ?k4 ?_); (case k1 => k_asm); (case k2 => k_asm); (case k3 => k_is); (case k4 => repeat constructor); intro b e; (try dsimp only)))
local macro_rules | `(tactic| walk_at "compareOp In int ref") => `(tactic| (k_here; (with_unfolding_all first
  | (refine' in_tup4 ?a1 ?a2 ?a3 ?_ ?_; (case a1 => k_asm); (case a2 => k_asm); (case a3 => k_is))
  | (refine' in_tup6 ?b1 ?b2 ?b3 ?_ ?_; (case b1 => k_asm); (case b2 => k_asm); (case b3 => k_is))); (all_goals intro e)))
local macro_rules | `(tactic| walk_at "call ref") => `(tactic| (refine wpAny_call ?_; k_dflt (refine' code_def ?k1 ?k2 ?k3 ?k4 ?k5 ?kA ?kF ?kK ?k6 ?k7 ?k8 ?k9 ?kB ?_ ?c2 ?c3 ?c4 ?c5; (case kA => exact rfl); (case kF => exact rfl); (case kK => exact rfl); (case k1 => k_asm); (case k2 => k_asm); (case k3 => k_asm); (case k4 => k_asm); (case k5 => k_asm); (case k6 => k_is); (case k7 => k_is); (case k8 => ktr_room); (case k9 => exact BindsTo.of_eq rfl); (case c5 => decide); (case kB => exact locs rfl); (case c2 => exact rfl); (case c3 => exact rfl); (case c4 => exact rfl); k_whole; intro g' L' h' FG' F' N' B' X' T'; (try dsimp only); (try k_lift B'); (try k_fold))))
set_option maxRecDepth 100000 in
set_option maxHeartbeats 8000000 in
theorem l_jul (y mm : Int) (u u2 u3 : Tok) (hm1 : 1 ≤ mm) (hm2 : mm ≤ 12) : Claim 524 16 128 [.int y u, .int mm u2] (GivesI (Len 1 y mm)) := by
  unfold Claim
  k_fill
  intro w loose mean mg mb news dp un gd cn cs a ccd cl outer A₀ base h₀ L m s Q E B F X N T hk hd hu hret
  refine wpAny_call ?_
  k_dflt (refine' code_def (binds := [(Str.ofString "year", .int y u), (Str.ofString "month", .int mm u2)]) ?k1 ?k2 ?k3 ?k4 ?k5 ?kA ?kF ?kK ?k6 ?k7 ?k8 ?k9 ?kB ?_ ?c2 ?c3 ?c4 ?c5; (case kA => exact rfl); (case kF => exact rfl); (case kK => assumption); (case k1 => k_asm); (case k2 => k_asm); (case k3 => k_asm); (case k4 => k_asm); (case k5 => k_asm); (case k6 => k_is); (case k7 => k_is); (case k8 => ktr_room); (case k9 => exact BindsTo.of_eq rfl); (case c5 => decide); (case kB => exact locs rfl); (case c2 => exact rfl); (case c3 => exact rfl); (case c4 => exact rfl); k_whole; intro g' L' h' FG' F' N' B' X' T'; (try dsimp only [List.reverse, List.reverseAux]); (try k_lift B'); (try k_fold))
  k_steps
  all_goals first | (exfalso; omega) | (refine hret _ news _ _ ⟨int_eq ?_, rfl⟩ (by k_asm) (by first | k_asm | (refine' cb_drop ?cbN ?cbS; (case cbN => assumption); (case cbS => kcj_all))))
  all_goals (have q4 := Int.fmod_eq_emod_of_nonneg y (show (0 : Int) ≤ 4 by decide))
  all_goals (rw [len1]; unfold mlen jleap; simp only [beq_iff_eq]; (repeat' split) <;> omega)
end Mine
end

section -- C11
open PySem PySem.W PySem.Calls PyProof.Rows PySem.Spec PySem.Flt
namespace Mine
local macro_rules | `(tactic| walk_at "none 0") => `(tactic| skip)
local macro_rules | `(tactic| walk_at "none 1") => `(tactic| skip)
local macro_rules | `(tactic| walk_at "none 2") => `(tactic| skip)
local macro_rules | `(tactic| walk_at "none 3") => `(tactic| skip)
local macro_rules | `(tactic| walk_at "none 4") => `(tactic| skip)
local macro_rules | `(tactic| walk_at "none 5") => `(tactic| skip)
local macro_rules | `(tactic| walk_at "none 6") => `(tactic| skip)
local macro_rules | `(tactic| walk_at "none 7") => `(tactic| skip)
local macro_rules | `(tactic| walk_at "none 8") => `(tactic| skip)
local macro_rules | `(tactic| walk_at "none 9") => `(tactic| skip)
local macro_rules | `(tactic| ktr_rel) => `(tactic| first | with_reducible assumption | exact fx_half | exact fx_greg | exact fx_arm | exact fx_sark | exact fx_copt | exact fx_isl | exact fx_law | exact fx_295 | exact fx_365)
local macro_rules | `(tactic| walk_at "binaryOp Add float float") => `(tactic| (refine s_add_ff (by ktr_rel) (by ktr_rel) (by omega) (by omega) ?_; intro z r e f t; (try dsimp only)))
local macro_rules | `(tactic| walk_at "inplaceOp Add float float") => `(tactic| (refine s_iadd_ff (by ktr_rel) (by ktr_rel) (by omega) (by omega) ?_; intro z r e f t; (try dsimp only)))
local macro_rules | `(tactic| walk_at "binaryOp Sub float float") => `(tactic| (refine s_sub_ff (by ktr_rel) (by ktr_rel) (by omega) (by omega) ?_; intro z r e f t; (try dsimp only)))
local macro_rules | `(tactic| walk_at "binaryOp Add float int") => `(tactic| first
  | (refine s_add_fi rfl (by ktr_rel) (by omega) (by omega) (by omega) (by omega) ?_; intro z r e f t; (try dsimp only))
  | (refine s_add_fi_nr rfl (by with_reducible assumption) (by omega) (by omega) (by omega) (by omega) (by omega) ?_; intro z r e f t; (try dsimp only)))
local macro_rules | `(tactic| walk_at "binaryOp Add int float") => `(tactic| (refine s_add_if rfl (by ktr_rel) (by omega) (by omega) (by omega) (by omega) ?_; intro z r e f t; (try dsimp only)))
local macro_rules | `(tactic| walk_at "binaryOp Sub float int") => `(tactic| (refine s_sub_fi rfl (by ktr_rel) (by omega) (by omega) (by omega) (by omega) ?_; intro z r e f t; (try dsimp only)))
local macro_rules | `(tactic| walk_at "binaryOp Sub int float") => `(tactic| (refine s_sub_if rfl (by ktr_rel) (by omega) (by omega) (by omega) (by omega) ?_; intro z r e f t; (try dsimp only)))
local macro_rules | `(tactic| walk_at "binaryOp Mult float int") => `(tactic| (refine s_mul_fi rfl (by ktr_rel) (by omega) (by omega) (by omega) (by omega) ?_; intro z r e f t; (try dsimp only)))
local macro_rules | `(tactic| walk_at "binaryOp Mult int float") => `(tactic| (refine s_mul_if rfl (by ktr_rel) (by omega) (by omega) (by omega) (by omega) ?_; intro z r e f t; (try dsimp only)))
local macro_rules | `(tactic| walk_at "binaryOp Div float float") => `(tactic| (refine s_div_ff rfl (by ktr_rel) (by ktr_rel) (by omega) (by omega) (by omega) ?_; intro z f t; (try dsimp only)))
local macro_rules | `(tactic| walk_at "binaryOp Div float int") => `(tactic| (refine s_div_fi rfl (by ktr_rel) (by omega) (by omega) (by omega) (by omega) ?_; intro z f t; (try dsimp only)))
local macro_rules | `(tactic| walk_at "binaryOp Div int int") => `(tactic| (refine s_div_ii rfl (by omega) (by omega) (by omega) ?_; intro z f t; (try dsimp only)))
local macro_rules | `(tactic| walk_at "binaryOp Mod float int") => `(tactic| (refine s_mod_fi rfl (by ktr_rel) (by omega) (by omega) (by omega) (by omega) ?_; intro z r e f t; (try dsimp only)))
local macro_rules | `(tactic| walk_at "call builtin:math.floor") => `(tactic| first
  | ((with_reducible show wpAny _ _ (call _ [Value.float _ _]) _ _ _); refine s_floor_fx rfl (by ktr_rel) ?_; intro c e t; (try dsimp only))
  | ((with_reducible show wpAny _ _ (call _ [Value.float _ _]) _ _ _); refine s_floor_nr rfl (by with_reducible assumption) (by omega) (by omega) (by omega) (by omega) ?_; intro c e t; (try dsimp only)))
local macro_rules | `(tactic| walk_at "call builtin:math.ceil") => `(tactic| first
  | ((with_reducible show wpAny _ _ (call _ [Value.float _ _]) _ _ _); refine s_ceil_fx rfl (by ktr_rel) ?_; intro c e t; (try dsimp only))
  | ((with_reducible show wpAny _ _ (call _ [Value.float _ _]) _ _ _); refine s_ceil_nr rfl (by with_reducible assumption) (by omega) (by omega) (by omega) (by omega) ?_; intro c e t; (try dsimp only)))
local macro_rules | `(tactic| walk_at "call builtin:math.trunc") => `(tactic| first
  | ((with_reducible show wpAny _ _ (call _ [Value.float _ _]) _ _ _); refine s_trunc_fx rfl (by ktr_rel) (by omega) ?_; intro c e t; (try dsimp only))
  | ((with_reducible show wpAny _ _ (call _ [Value.float _ _]) _ _ _); refine s_trunc_nr rfl (by with_reducible assumption) (by omega) (by omega) (by omega) (by omega) (by omega) ?_; intro c e t; (try dsimp only)))
local macro_rules | `(tactic| walk_at "call type:int") => `(tactic| ((with_reducible show wpAny _ _ (call _ [Value.float _ _]) _ _ _); refine s_int_fx rfl (by ktr_rel) (by omega) ?_; intro c e t; (try dsimp only)))
local macro_rules | `(tactic| walk_at "compareOp Lt float int") => `(tactic| (refine s_lt_fi (by ktr_rel) ?_; intro b e; (try dsimp only)))
local macro_rules | `(tactic| walk_at "compareOp Eq float int") => `(tactic| (refine s_eq_fi (by ktr_rel) ?_; intro b e; (try dsimp only)))
local macro_rules | `(tactic| walk_at "eval Call") => `(tactic| k_dflt (refine Call_ ?_))
local macro_rules | `(tactic| walk_at "compareOp In int ref") => `(tactic| (k_here; (with_unfolding_all refine' in_tup_K ?k1 ?k2 ?k3 ?k4 ?_); (case k1 => k_asm); (case k2 => k_asm); (case k3 => k_is); (case k4 => repeat constructor); intro b e; (try dsimp only)))
local macro_rules | `(tactic| walk_at "compareOp In int ref") => `(tactic| (k_here; (with_unfolding_all first
  | (refine' in_tup4 ?a1 ?a2 ?a3 ?_ ?_; (case a1 => k_asm); (case a2 => k_asm); (case a3 => k_is))
  | (refine' in_tup6 ?b1 ?b2 ?b3 ?_ ?_; (case b1 => k_asm); (case b2 => k_asm); (case b3 => k_is))); (all_goals intro e)))
local macro_rules | `(tactic| walk_at "call ref") => `(tactic| (refine wpAny_call ?_; k_dflt (refine' code_def ?k1 ?k2 ?k3 ?k4 ?k5 ?kA ?kF ?kK ?k6 ?k7 ?k8 ?k9 ?kB ?_ ?c2 ?c3 ?c4 ?c5; (case kA => exact rfl); (case kF => exact rfl); (case kK => exact rfl); (case k1 => k_asm); (case k2 => k_asm); (case k3 => k_asm); (case k4 => k_asm); (case k5 => k_asm); (case k6 => k_is); (case k7 => k_is); (case k8 => ktr_room); (case k9 => exact BindsTo.of_eq rfl); (case c5 => decide); (case kB => exact locs rfl); (case c2 => exact rfl); (case c3 => exact rfl); (case c4 => exact rfl); k_whole; intro g' L' h' FG' F' N' B' X' T'; (try dsimp only); (try k_lift B'); (try k_fold))))
set_option maxRecDepth 100000 in
set_option maxHeartbeats 8000000 in
theorem l_isl (y mm : Int) (u u2 u3 : Tok) (hm1 : 1 ≤ mm) (hm2 : mm ≤ 12) : Claim 509 16 128 [.int y u, .int mm u2] (GivesI (Len 2 y mm)) := by
  unfold Claim
  k_fill
  intro w loose mean mg mb news dp un gd cn cs a ccd cl outer A₀ base h₀ L m s Q E B F X N T hk hd hu hret
  refine wpAny_call ?_
  k_dflt (refine' code_def (binds := [(Str.ofString "year", .int y u), (Str.ofString "month", .int mm u2)]) ?k1 ?k2 ?k3 ?k4 ?k5 ?kA ?kF ?kK ?k6 ?k7 ?k8 ?k9 ?kB ?_ ?c2 ?c3 ?c4 ?c5; (case kA => exact rfl); (case kF => exact rfl); (case kK => assumption); (case k1 => k_asm); (case k2 => k_asm); (case k3 => k_asm); (case k4 => k_asm); (case k5 => k_asm); (case k6 => k_is); (case k7 => k_is); (case k8 => ktr_room); (case k9 => exact BindsTo.of_eq rfl); (case c5 => decide); (case kB => exact locs rfl); (case c2 => exact rfl); (case c3 => exact rfl); (case c4 => exact rfl); k_whole; intro g' L' h' FG' F' N' B' X' T'; (try dsimp only [List.reverse, List.reverseAux]); (try k_lift B'); (try k_fold))
  k_steps
  all_goals first | (exfalso; omega) | (refine hret _ news _ _ ⟨int_eq ?_, rfl⟩ (by k_asm) (by first | k_asm | (refine' cb_drop ?cbN ?cbS; (case cbN => assumption); (case cbS => kcj_all))))
  all_goals (have q4 := Int.fmod_eq_emod_of_nonneg y (show (0 : Int) ≤ 4 by decide))
  all_goals (rw [len2]; unfold ilen ileap; (have q30 := Int.fmod_eq_emod_of_nonneg (y * 11 + 14) (show (0 : Int) ≤ 30 by decide)); simp only [decide_eq_true_eq]; split <;> omega)
end Mine
end

section -- C12
open PySem PySem.W PySem.Calls PyProof.Rows PySem.Spec PySem.Flt
namespace Mine
local macro_rules | `(tactic| walk_at "none 0") => `(tactic| skip)
local macro_rules | `(tactic| walk_at "none 1") => `(tactic| skip)
local macro_rules | `(tactic| walk_at "none 2") => `(tactic| skip)
local macro_rules | `(tactic| walk_at "none 3") => `(tactic| skip)
local macro_rules | `(tactic| walk_at "none 4") => `(tactic| skip)
local macro_rules | `(tactic| walk_at "none 5") => `(tactic| skip)
local macro_rules | `(tactic| walk_at "none 6") => `(tactic| skip)
local macro_rules | `(tactic| walk_at "none 7") => `(tactic| skip)
local macro_rules | `(tactic| walk_at "none 8") => `(tactic| skip)
local macro_rules | `(tactic| walk_at "none 9") => `(tactic| skip)
local macro_rules | `(tactic| walk_at "none 10") => `(tactic| skip)
local macro_rules | `(tactic| ktr_rel) => `(tactic| first | with_reducible assumption | exact fx_half | exact fx_greg | exact fx_arm | exact fx_sark | exact fx_copt | exact fx_isl | exact fx_law | exact fx_295 | exact fx_365)
local macro_rules | `(tactic| walk_at "binaryOp Add float float") => `(tactic| (refine s_add_ff (by ktr_rel) (by ktr_rel) (by omega) (by omega) ?_; intro z r e f t; (try dsimp only)))
local macro_rules | `(tactic| walk_at "inplaceOp Add float float") => `(tactic| (refine s_iadd_ff (by ktr_rel) (by ktr_rel) (by omega) (by omega) ?_; intro z r e f t; (try dsimp only)))
local macro_rules | `(tactic| walk_at "binaryOp Sub float float") => `(tactic| (refine s_sub_ff (by ktr_rel) (by ktr_rel) (by omega) (by omega) ?_; intro z r e f t; (try dsimp only)))
local macro_rules | `(tactic| walk_at "binaryOp Add float int") => `(tactic| first
  | (refine s_add_fi rfl (by ktr_rel) (by omega) (by omega) (by omega) (by omega) ?_; intro z r e f t; (try dsimp only))
  | (refine s_add_fi_nr rfl (by with_reducible assumption) (by omega) (by omega) (by omega) (by omega) (by omega) ?_; intro z r e f t; (try dsimp only)))
local macro_rules | `(tactic| walk_at "binaryOp Add int float") => `(tactic| (refine s_add_if rfl (by ktr_rel) (by omega) (by omega) (by omega) (by omega) ?_; intro z r e f t; (try dsimp only)))
local macro_rules | `(tactic| walk_at "binaryOp Sub float int") => `(tactic| (refine s_sub_fi rfl (by ktr_rel) (by omega) (by omega) (by omega) (by omega) ?_; intro z r e f t; (try dsimp only)))
local macro_rules | `(tactic| walk_at "binaryOp Sub int float") => `(tactic| (refine s_sub_if rfl (by ktr_rel) (by omega) (by omega) (by omega) (by omega) ?_; intro z r e f t; (try dsimp only)))
local macro_rules | `(tactic| walk_at "binaryOp Mult float int") => `(tactic| (refine s_mul_fi rfl (by ktr_rel) (by omega) (by omega) (by omega) (by omega) ?_; intro z r e f t; (try dsimp only)))
local macro_rules | `(tactic| walk_at "binaryOp Mult int float") => `(tactic| (refine s_mul_if rfl (by ktr_rel) (by omega) (by omega) (by omega) (by omega) ?_; intro z r e f t; (try dsimp only)))
local macro_rules | `(tactic| walk_at "binaryOp Div float float") => `(tactic| (refine s_div_ff rfl (by ktr_rel) (by ktr_rel) (by omega) (by omega) (by omega) ?_; intro z f t; (try dsimp only)))
local macro_rules | `(tactic| walk_at "binaryOp Div float int") => `(tactic| (refine s_div_fi rfl (by ktr_rel) (by omega) (by omega) (by omega) (by omega) ?_; intro z f t; (try dsimp only)))
local macro_rules | `(tactic| walk_at "binaryOp Div int int") => `(tactic| (refine s_div_ii rfl (by omega) (by omega) (by omega) ?_; intro z f t; (try dsimp only)))
local macro_rules | `(tactic| walk_at "binaryOp Mod float int") => `(tactic| (refine s_mod_fi rfl (by ktr_rel) (by omega) (by omega) (by omega) (by omega) ?_; intro z r e f t; (try dsimp only)))
local macro_rules | `(tactic| walk_at "call builtin:math.floor") => `(tactic| first
  | ((with_reducible show wpAny _ _ (call _ [Value.float _ _]) _ _ _); refine s_floor_fx rfl (by ktr_rel) ?_; intro c e t; (try dsimp only))
  | ((with_reducible show wpAny _ _ (call _ [Value.float _ _]) _ _ _); refine s_floor_nr rfl (by with_reducible assumption) (by omega) (by omega) (by omega) (by omega) ?_; intro c e t; (try dsimp only)))
local macro_rules | `(tactic| walk_at "call builtin:math.ceil") => `(tactic| first
  | ((with_reducible show wpAny _ _ (call _ [Value.float _ _]) _ _ _); refine s_ceil_fx rfl (by ktr_rel) ?_; intro c e t; (try dsimp only))
  | ((with_reducible show wpAny _ _ (call _ [Value.float _ _]) _ _ _); refine s_ceil_nr rfl (by with_reducible assumption) (by omega) (by omega) (by omega) (by omega) ?_; intro c e t; (try dsimp only)))
local macro_rules | `(tactic| walk_at "call builtin:math.trunc") => `(tactic| first
  | ((with_reducible show wpAny _ _ (call _ [Value.float _ _]) _ _ _); refine s_trunc_fx rfl (by ktr_rel) (by omega) ?_; intro c e t; (try dsimp only))
  | ((with_reducible show wpAny _ _ (call _ [Value.float _ _]) _ _ _); refine s_trunc_nr rfl (by with_reducible assumption) (by omega) (by omega) (by omega) (by omega) (by omega) ?_; intro c e t; (try dsimp only)))
local macro_rules | `(tactic| walk_at "call type:int") => `(tactic| ((with_reducible show wpAny _ _ (call _ [Value.float _ _]) _ _ _); refine s_int_fx rfl (by ktr_rel) (by omega) ?_; intro c e t; (try dsimp only)))
local macro_rules | `(tactic| walk_at "compareOp Lt float int") => `(tactic| (refine s_lt_fi (by ktr_rel) ?_; intro b e; (try dsimp only)))
local macro_rules | `(tactic| walk_at "compareOp Eq float int") => `(tactic| (refine s_eq_fi (by ktr_rel) ?_; intro b e; (try dsimp only)))
local macro_rules | `(tactic| walk_at "eval Call") => `(tactic| k_dflt (refine Call_ ?_))
local macro_rules | `(tactic| walk_at "compareOp In int ref") => `(tactic| (k_here; (with_unfolding_all refine' in_tup_K ?k1 ?k2 ?k3 ?k4 ?_); (case k1 => k_asm); (case k2 => k_asm); (case k3 => k_is); (case k4 => repeat constructor); intro b e; (try dsimp only)))
local macro_rules | `(tactic| walk_at "compareOp In int ref") => `(tactic| (k_here; (with_unfolding_all first
  | (refine' in_tup4 ?a1 ?a2 ?a3 ?_ ?_; (case a1 => k_asm); (case a2 => k_asm); (case a3 => k_is))
  | (refine' in_tup6 ?b1 ?b2 ?b3 ?_ ?_; (case b1 => k_asm); (case b2 => k_asm); (case b3 => k_is))); (all_goals intro e)))
local macro_rules | `(tactic| walk_at "call ref") => `(tactic| (refine wpAny_call ?_; k_dflt (refine' code_def ?k1 ?k2 ?k3 ?k4 ?k5 ?kA ?kF ?kK ?k6 ?k7 ?k8 ?k9 ?kB ?_ ?c2 ?c3 ?c4 ?c5; (case kA => exact rfl); (case kF => exact rfl); (case kK => exact rfl); (case k1 => k_asm); (case k2 => k_asm); (case k3 => k_asm); (case k4 => k_asm); (case k5 => k_asm); (case k6 => k_is); (case k7 => k_is); (case k8 => ktr_room); (case k9 => exact BindsTo.of_eq rfl); (case c5 => decide); (case kB => exact locs rfl); (case c2 => exact rfl); (case c3 => exact rfl); (case c4 => exact rfl); k_whole; intro g' L' h' FG' F' N' B' X' T'; (try dsimp only); (try k_lift B'); (try k_fold))))
set_option maxRecDepth 100000 in
set_option maxHeartbeats 8000000 in
theorem l_cop (y mm : Int) (u u2 u3 : Tok) (hm1 : 1 ≤ mm) (hm2 : mm ≤ 13) : Claim 480 16 128 [.int y u, .int mm u2] (GivesI (Len 3 y mm)) := by
  unfold Claim
  k_fill
  intro w loose mean mg mb news dp un gd cn cs a ccd cl outer A₀ base h₀ L m s Q E B F X N T hk hd hu hret
  refine wpAny_call ?_
  k_dflt (refine' code_def (binds := [(Str.ofString "year", .int y u), (Str.ofString "month", .int mm u2)]) ?k1 ?k2 ?k3 ?k4 ?k5 ?kA ?kF ?kK ?k6 ?k7 ?k8 ?k9 ?kB ?_ ?c2 ?c3 ?c4 ?c5; (case kA => exact rfl); (case kF => exact rfl); (case kK => assumption); (case k1 => k_asm); (case k2 => k_asm); (case k3 => k_asm); (case k4 => k_asm); (case k5 => k_asm); (case k6 => k_is); (case k7 => k_is); (case k8 => ktr_room); (case k9 => exact BindsTo.of_eq rfl); (case c5 => decide); (case kB => exact locs rfl); (case c2 => exact rfl); (case c3 => exact rfl); (case c4 => exact rfl); k_whole; intro g' L' h' FG' F' N' B' X' T'; (try dsimp only [List.reverse, List.reverseAux]); (try k_lift B'); (try k_fold))
  k_steps
  all_goals first | (exfalso; omega) | (refine hret _ news _ _ ⟨int_eq ?_, rfl⟩ (by k_asm) (by first | k_asm | (refine' cb_drop ?cbN ?cbS; (case cbN => assumption); (case cbS => kcj_all))))
  all_goals (have q4 := Int.fmod_eq_emod_of_nonneg y (show (0 : Int) ≤ 4 by decide))
  all_goals (rw [len3]; unfold clen; (repeat' split) <;> omega)
end Mine
end

section -- C13
open PySem PySem.W PySem.Calls PyProof.Rows PySem.Spec PySem.Flt
namespace Mine
local macro_rules | `(tactic| walk_at "none 0") => `(tactic| skip)
local macro_rules | `(tactic| walk_at "none 1") => `(tactic| skip)
local macro_rules | `(tactic| walk_at "none 2") => `(tactic| skip)
local macro_rules | `(tactic| walk_at "none 3") => `(tactic| skip)
local macro_rules | `(tactic| walk_at "none 4") => `(tactic| skip)
local macro_rules | `(tactic| walk_at "none 5") => `(tactic| skip)
local macro_rules | `(tactic| walk_at "none 6") => `(tactic| skip)
local macro_rules | `(tactic| walk_at "none 7") => `(tactic| skip)
local macro_rules | `(tactic| walk_at "none 8") => `(tactic| skip)
local macro_rules | `(tactic| walk_at "none 9") => `(tactic| skip)
local macro_rules | `(tactic| walk_at "none 10") => `(tactic| skip)
local macro_rules | `(tactic| walk_at "none 11") => `(tactic| skip)
local macro_rules | `(tactic| ktr_rel) => `(tactic| first | with_reducible assumption | exact fx_half | exact fx_greg | exact fx_arm | exact fx_sark | exact fx_copt | exact fx_isl | exact fx_law | exact fx_295 | exact fx_365)
local macro_rules | `(tactic| walk_at "binaryOp Add float float") => `(tactic| (refine s_add_ff (by ktr_rel) (by ktr_rel) (by omega) (by omega) ?_; intro z r e f t; (try dsimp only)))
local macro_rules | `(tactic| walk_at "inplaceOp Add float float") => `(tactic| (refine s_iadd_ff (by ktr_rel) (by ktr_rel) (by omega) (by omega) ?_; intro z r e f t; (try dsimp only)))
local macro_rules | `(tactic| walk_at "binaryOp Sub float float") => `(tactic| (refine s_sub_ff (by ktr_rel) (by ktr_rel) (by omega) (by omega) ?_; intro z r e f t; (try dsimp only)))
local macro_rules | `(tactic| walk_at "binaryOp Add float int") => `(tactic| first
  | (refine s_add_fi rfl (by ktr_rel) (by omega) (by omega) (by omega) (by omega) ?_; intro z r e f t; (try dsimp only))
  | (refine s_add_fi_nr rfl (by with_reducible assumption) (by omega) (by omega) (by omega) (by omega) (by omega) ?_; intro z r e f t; (try dsimp only)))
local macro_rules | `(tactic| walk_at "binaryOp Add int float") => `(tactic| (refine s_add_if rfl (by ktr_rel) (by omega) (by omega) (by omega) (by omega) ?_; intro z r e f t; (try dsimp only)))
local macro_rules | `(tactic| walk_at "binaryOp Sub float int") => `(tactic| (refine s_sub_fi rfl (by ktr_rel) (by omega) (by omega) (by omega) (by omega) ?_; intro z r e f t; (try dsimp only)))
local macro_rules | `(tactic| walk_at "binaryOp Sub int float") => `(tactic| (refine s_sub_if rfl (by ktr_rel) (by omega) (by omega) (by omega) (by omega) ?_; intro z r e f t; (try dsimp only)))
local macro_rules | `(tactic| walk_at "binaryOp Mult float int") => `(tactic| (refine s_mul_fi rfl (by ktr_rel) (by omega) (by omega) (by omega) (by omega) ?_; intro z r e f t; (try dsimp only)))
local macro_rules | `(tactic| walk_at "binaryOp Mult int float") => `(tactic| (refine s_mul_if rfl (by ktr_rel) (by omega) (by omega) (by omega) (by omega) ?_; intro z r e f t; (try dsimp only)))
local macro_rules | `(tactic| walk_at "binaryOp Div float float") => `(tactic| (refine s_div_ff rfl (by ktr_rel) (by ktr_rel) (by omega) (by omega) (by omega) ?_; intro z f t; (try dsimp only)))
local macro_rules | `(tactic| walk_at "binaryOp Div float int") => `(tactic| (refine s_div_fi rfl (by ktr_rel) (by omega) (by omega) (by omega) (by omega) ?_; intro z f t; (try dsimp only)))
local macro_rules | `(tactic| walk_at "binaryOp Div int int") => `(tactic| (refine s_div_ii rfl (by omega) (by omega) (by omega) ?_; intro z f t; (try dsimp only)))
local macro_rules | `(tactic| walk_at "binaryOp Mod float int") => `(tactic| (refine s_mod_fi rfl (by ktr_rel) (by omega) (by omega) (by omega) (by omega) ?_; intro z r e f t; (try dsimp only)))
local macro_rules | `(tactic| walk_at "call builtin:math.floor") => `(tactic| first
  | ((with_reducible show wpAny _ _ (call _ [Value.float _ _]) _ _ _); refine s_floor_fx rfl (by ktr_rel) ?_; intro c e t; (try dsimp only))
  | ((with_reducible show wpAny _ _ (call _ [Value.float _ _]) _ _ _); refine s_floor_nr rfl (by with_reducible assumption) (by omega) (by omega) (by omega) (by omega) ?_; intro c e t; (try dsimp only)))
local macro_rules | `(tactic| walk_at "call builtin:math.ceil") => `(tactic| first
  | ((with_reducible show wpAny _ _ (call _ [Value.float _ _]) _ _ _); refine s_ceil_fx rfl (by ktr_rel) ?_; intro c e t; (try dsimp only))
  | ((with_reducible show wpAny _ _ (call _ [Value.float _ _]) _ _ _); refine s_ceil_nr rfl (by with_reducible assumption) (by omega) (by omega) (by omega) (by omega) ?_; intro c e t; (try dsimp only)))
local macro_rules | `(tactic| walk_at "call builtin:math.trunc") => `(tactic| first
  | ((with_reducible show wpAny _ _ (call _ [Value.float _ _]) _ _ _); refine s_trunc_fx rfl (by ktr_rel) (by omega) ?_; intro c e t; (try dsimp only))
  | ((with_reducible show wpAny _ _ (call _ [Value.float _ _]) _ _ _); refine s_trunc_nr rfl (by with_reducible assumption) (by omega) (by omega) (by omega) (by omega) (by omega) ?_; intro c e t; (try dsimp only)))
local macro_rules | `(tactic| walk_at "call type:int") => `(tactic| ((with_reducible show wpAny _ _ (call _ [Value.float _ _]) _ _ _); refine s_int_fx rfl (by ktr_rel) (by omega) ?_; intro c e t; (try dsimp only)))
local macro_rules | `(tactic| walk_at "compareOp Lt float int") => `(tactic| (refine s_lt_fi (by ktr_rel) ?_; intro b e; (try dsimp only)))
local macro_rules | `(tactic| walk_at "compareOp Eq float int") => `(tactic| (refine s_eq_fi (by ktr_rel) ?_; intro b e; (try dsimp only)))
local macro_rules | `(tactic| walk_at "eval Call") => `(tactic| k_dflt (refine Call_ ?_))
local macro_rules | `(tactic| walk_at "compareOp In int ref") => `(tactic| (k_here; (with_unfolding_all refine' in_tup_K ?k1 ?k2 ?k3 ?k4 ?_); (case k1 => k_asm); (case k2 => k_asm); (case k3 => k_is); (case k4 => repeat constructor); intro b e; (try dsimp only)))
local macro_rules | `(tactic| walk_at "compareOp In int ref") => `(tactic| (k_here; (with_unfolding_all first
  | (refine' in_tup4 ?a1 ?a2 ?a3 ?_ ?_; (case a1 => k_asm); (case a2 => k_asm); (case a3 => k_is))
  | (refine' in_tup6 ?b1 ?b2 ?b3 ?_ ?_; (case b1 => k_asm); (case b2 => k_asm); (case b3 => k_is))); (all_goals intro e)))
local macro_rules | `(tactic| walk_at "call ref") => `(tactic| (refine wpAny_call ?_; k_dflt (refine' code_def ?k1 ?k2 ?k3 ?k4 ?k5 ?kA ?kF ?kK ?k6 ?k7 ?k8 ?k9 ?kB ?_ ?c2 ?c3 ?c4 ?c5; (case kA => exact rfl); (case kF => exact rfl); (case kK => exact rfl); (case k1 => k_asm); (case k2 => k_asm); (case k3 => k_asm); (case k4 => k_asm); (case k5 => k_asm); (case k6 => k_is); (case k7 => k_is); (case k8 => ktr_room); (case k9 => exact BindsTo.of_eq rfl); (case c5 => decide); (case kB => exact locs rfl); (case c2 => exact rfl); (case c3 => exact rfl); (case c4 => exact rfl); k_whole; intro g' L' h' FG' F' N' B' X' T'; (try dsimp only); (try k_lift B'); (try k_fold))))
set_option maxRecDepth 100000 in
set_option maxHeartbeats 8000000 in
theorem l_arm (y mm : Int) (u u2 u3 : Tok) (hm1 : 1 ≤ mm) (hm2 : mm ≤ 13) : Claim 452 16 128 [.int y u, .int mm u2] (GivesI (Len 4 y mm)) := by
  unfold Claim
  k_fill
  intro w loose mean mg mb news dp un gd cn cs a ccd cl outer A₀ base h₀ L m s Q E B F X N T hk hd hu hret
  refine wpAny_call ?_
  k_dflt (refine' code_def (binds := [(Str.ofString "year", .int y u), (Str.ofString "month", .int mm u2), (Str.ofString "method", .none)]) ?k1 ?k2 ?k3 ?k4 ?k5 ?kA ?kF ?kK ?k6 ?k7 ?k8 ?k9 ?kB ?_ ?c2 ?c3 ?c4 ?c5; (case kA => exact rfl); (case kF => exact rfl); (case kK => assumption); (case k1 => k_asm); (case k2 => k_asm); (case k3 => k_asm); (case k4 => k_asm); (case k5 => k_asm); (case k6 => k_is); (case k7 => k_is); (case k8 => ktr_room); (case k9 => exact binds_K (by k_in) rfl (by k_is) rfl rfl rfl); (case c5 => decide); (case kB => exact locs rfl); (case c2 => exact rfl); (case c3 => exact rfl); (case c4 => exact rfl); k_whole; intro g' L' h' FG' F' N' B' X' T'; (try dsimp only [List.reverse, List.reverseAux]); (try k_lift B'); (try k_fold))
  k_steps
  all_goals first | (exfalso; omega) | (refine hret _ news _ _ ⟨int_eq ?_, rfl⟩ (by k_asm) (by first | k_asm | (refine' cb_drop ?cbN ?cbS; (case cbN => assumption); (case cbS => kcj_all))))
  all_goals (have q4 := Int.fmod_eq_emod_of_nonneg y (show (0 : Int) ≤ 4 by decide))
  all_goals (rw [len4]; unfold alen; split <;> omega)
end Mine
end

section -- C14
open PySem PySem.W PySem.Calls PyProof.Rows PySem.Spec PySem.Flt
namespace Mine
local macro_rules | `(tactic| walk_at "none 0") => `(tactic| skip)
local macro_rules | `(tactic| walk_at "none 1") => `(tactic| skip)
local macro_rules | `(tactic| walk_at "none 2") => `(tactic| skip)
local macro_rules | `(tactic| walk_at "none 3") => `(tactic| skip)
local macro_rules | `(tactic| walk_at "none 4") => `(tactic| skip)
local macro_rules | `(tactic| walk_at "none 5") => `(tactic| skip)
local macro_rules | `(tactic| walk_at "none 6") => `(tactic| skip)
local macro_rules | `(tactic| walk_at "none 7") => `(tactic| skip)
local macro_rules | `(tactic| walk_at "none 8") => `(tactic| skip)
local macro_rules | `(tactic| walk_at "none 9") => `(tactic| skip)
local macro_rules | `(tactic| walk_at "none 10") => `(tactic| skip)
local macro_rules | `(tactic| walk_at "none 11") => `(tactic| skip)
local macro_rules | `(tactic| walk_at "none 12") => `(tactic| skip)
local macro_rules | `(tactic| ktr_rel) => `(tactic| first | with_reducible assumption | exact fx_half | exact fx_greg | exact fx_arm | exact fx_sark | exact fx_copt | exact fx_isl | exact fx_law | exact fx_295 | exact fx_365)
local macro_rules | `(tactic| walk_at "binaryOp Add float float") => `(tactic| (refine s_add_ff (by ktr_rel) (by ktr_rel) (by omega) (by omega) ?_; intro z r e f t; (try dsimp only)))
local macro_rules | `(tactic| walk_at "inplaceOp Add float float") => `(tactic| (refine s_iadd_ff (by ktr_rel) (by ktr_rel) (by omega) (by omega) ?_; intro z r e f t; (try dsimp only)))
local macro_rules | `(tactic| walk_at "binaryOp Sub float float") => `(tactic| (refine s_sub_ff (by ktr_rel) (by ktr_rel) (by omega) (by omega) ?_; intro z r e f t; (try dsimp only)))
local macro_rules | `(tactic| walk_at "binaryOp Add float int") => `(tactic| first
  | (refine s_add_fi rfl (by ktr_rel) (by omega) (by omega) (by omega) (by omega) ?_; intro z r e f t; (try dsimp only))
  | (refine s_add_fi_nr rfl (by with_reducible assumption) (by omega) (by omega) (by omega) (by omega) (by omega) ?_; intro z r e f t; (try dsimp only)))
local macro_rules | `(tactic| walk_at "binaryOp Add int float") => `(tactic| (refine s_add_if rfl (by ktr_rel) (by omega) (by omega) (by omega) (by omega) ?_; intro z r e f t; (try dsimp only)))
local macro_rules | `(tactic| walk_at "binaryOp Sub float int") => `(tactic| (refine s_sub_fi rfl (by ktr_rel) (by omega) (by omega) (by omega) (by omega) ?_; intro z r e f t; (try dsimp only)))
local macro_rules | `(tactic| walk_at "binaryOp Sub int float") => `(tactic| (refine s_sub_if rfl (by ktr_rel) (by omega) (by omega) (by omega) (by omega) ?_; intro z r e f t; (try dsimp only)))
local macro_rules | `(tactic| walk_at "binaryOp Mult float int") => `(tactic| (refine s_mul_fi rfl (by ktr_rel) (by omega) (by omega) (by omega) (by omega) ?_; intro z r e f t; (try dsimp only)))
local macro_rules | `(tactic| walk_at "binaryOp Mult int float") => `(tactic| (refine s_mul_if rfl (by ktr_rel) (by omega) (by omega) (by omega) (by omega) ?_; intro z r e f t; (try dsimp only)))
local macro_rules | `(tactic| walk_at "binaryOp Div float float") => `(tactic| (refine s_div_ff rfl (by ktr_rel) (by ktr_rel) (by omega) (by omega) (by omega) ?_; intro z f t; (try dsimp only)))
local macro_rules | `(tactic| walk_at "binaryOp Div float int") => `(tactic| (refine s_div_fi rfl (by ktr_rel) (by omega) (by omega) (by omega) (by omega) ?_; intro z f t; (try dsimp only)))
local macro_rules | `(tactic| walk_at "binaryOp Div int int") => `(tactic| (refine s_div_ii rfl (by omega) (by omega) (by omega) ?_; intro z f t; (try dsimp only)))
local macro_rules | `(tactic| walk_at "binaryOp Mod float int") => `(tactic| (refine s_mod_fi rfl (by ktr_rel) (by omega) (by omega) (by omega) (by omega) ?_; intro z r e f t; (try dsimp only)))
local macro_rules | `(tactic| walk_at "call builtin:math.floor") => `(tactic| first
  | ((with_reducible show wpAny _ _ (call _ [Value.float _ _]) _ _ _); refine s_floor_fx rfl (by ktr_rel) ?_; intro c e t; (try dsimp only))
  | ((with_reducible show wpAny _ _ (call _ [Value.float _ _]) _ _ _); refine s_floor_nr rfl (by with_reducible assumption) (by omega) (by omega) (by omega) (by omega) ?_; intro c e t; (try dsimp only)))
local macro_rules | `(tactic| walk_at "call builtin:math.ceil") => `(tactic| first
  | ((with_reducible show wpAny _ _ (call _ [Value.float _ _]) _ _ _); refine s_ceil_fx rfl (by ktr_rel) ?_; intro c e t; (try dsimp only))
  | ((with_reducible show wpAny _ _ (call _ [Value.float _ _]) _ _ _); refine s_ceil_nr rfl (by with_reducible assumption) (by omega) (by omega) (by omega) (by omega) ?_; intro c e t; (try dsimp only)))
local macro_rules | `(tactic| walk_at "call builtin:math.trunc") => `(tactic| first
  | ((with_reducible show wpAny _ _ (call _ [Value.float _ _]) _ _ _); refine s_trunc_fx rfl (by ktr_rel) (by omega) ?_; intro c e t; (try dsimp only))
  | ((with_reducible show wpAny _ _ (call _ [Value.float _ _]) _ _ _); refine s_trunc_nr rfl (by with_reducible assumption) (by omega) (by omega) (by omega) (by omega) (by omega) ?_; intro c e t; (try dsimp only)))
local macro_rules | `(tactic| walk_at "call type:int") => `(tactic| ((with_reducible show wpAny _ _ (call _ [Value.float _ _]) _ _ _); refine s_int_fx rfl (by ktr_rel) (by omega) ?_; intro c e t; (try dsimp only)))
local macro_rules | `(tactic| walk_at "compareOp Lt float int") => `(tactic| (refine s_lt_fi (by ktr_rel) ?_; intro b e; (try dsimp only)))
local macro_rules | `(tactic| walk_at "compareOp Eq float int") => `(tactic| (refine s_eq_fi (by ktr_rel) ?_; intro b e; (try dsimp only)))
local macro_rules | `(tactic| walk_at "eval Call") => `(tactic| k_dflt (refine Call_ ?_))
local macro_rules | `(tactic| walk_at "compareOp In int ref") => `(tactic| (k_here; (with_unfolding_all refine' in_tup_K ?k1 ?k2 ?k3 ?k4 ?_); (case k1 => k_asm); (case k2 => k_asm); (case k3 => k_is); (case k4 => repeat constructor); intro b e; (try dsimp only)))
local macro_rules | `(tactic| walk_at "compareOp In int ref") => `(tactic| (k_here; (with_unfolding_all first
  | (refine' in_tup4 ?a1 ?a2 ?a3 ?_ ?_; (case a1 => k_asm); (case a2 => k_asm); (case a3 => k_is))
  | (refine' in_tup6 ?b1 ?b2 ?b3 ?_ ?_; (case b1 => k_asm); (case b2 => k_asm); (case b3 => k_is))); (all_goals intro e)))
local macro_rules | `(tactic| walk_at "call ref") => `(tactic| (refine wpAny_call ?_; k_dflt (refine' code_def ?k1 ?k2 ?k3 ?k4 ?k5 ?kA ?kF ?kK ?k6 ?k7 ?k8 ?k9 ?kB ?_ ?c2 ?c3 ?c4 ?c5; (case kA => exact rfl); (case kF => exact rfl); (case kK => exact rfl); (case k1 => k_asm); (case k2 => k_asm); (case k3 => k_asm); (case k4 => k_asm); (case k5 => k_asm); (case k6 => k_is); (case k7 => k_is); (case k8 => ktr_room); (case k9 => exact BindsTo.of_eq rfl); (case c5 => decide); (case kB => exact locs rfl); (case c2 => exact rfl); (case c3 => exact rfl); (case c4 => exact rfl); k_whole; intro g' L' h' FG' F' N' B' X' T'; (try dsimp only); (try k_lift B'); (try k_fold))))
set_option maxRecDepth 100000 in
set_option maxHeartbeats 8000000 in
theorem l_sark (y mm : Int) (u u2 u3 : Tok) (hm1 : 1 ≤ mm) (hm2 : mm ≤ 13) : Claim 452 16 128 [.int y u, .int mm u2, .str (Str.ofString "sarkawag") u3] (GivesI (Len 5 y mm)) := by
  unfold Claim
  k_fill
  intro w loose mean mg mb news dp un gd cn cs a ccd cl outer A₀ base h₀ L m s Q E B F X N T hk hd hu hret
  refine wpAny_call ?_
  k_dflt (refine' code_def (binds := [(Str.ofString "year", .int y u), (Str.ofString "month", .int mm u2), (Str.ofString "method", .str (Str.ofString "sarkawag") u3)]) ?k1 ?k2 ?k3 ?k4 ?k5 ?kA ?kF ?kK ?k6 ?k7 ?k8 ?k9 ?kB ?_ ?c2 ?c3 ?c4 ?c5; (case kA => exact rfl); (case kF => exact rfl); (case kK => assumption); (case k1 => k_asm); (case k2 => k_asm); (case k3 => k_asm); (case k4 => k_asm); (case k5 => k_asm); (case k6 => k_is); (case k7 => k_is); (case k8 => ktr_room); (case k9 => exact binds_K (by k_in) rfl (by k_is) rfl rfl rfl); (case c5 => decide); (case kB => exact locs rfl); (case c2 => exact rfl); (case c3 => exact rfl); (case c4 => exact rfl); k_whole; intro g' L' h' FG' F' N' B' X' T'; (try dsimp only [List.reverse, List.reverseAux]); (try k_lift B'); (try k_fold))
  k_steps
  all_goals first | (exfalso; omega) | (refine hret _ news _ _ ⟨int_eq ?_, rfl⟩ (by k_asm) (by first | k_asm | (refine' cb_drop ?cbN ?cbS; (case cbN => assumption); (case cbS => kcj_all))))
  all_goals (have q4 := Int.fmod_eq_emod_of_nonneg y (show (0 : Int) ≤ 4 by decide))
  all_goals (rw [len5]; unfold slen; (repeat' split) <;> omega)
end Mine
end

section -- SM
open PySem PySem.W PySem.Calls PyProof.Rows PySem.Spec PySem.Flt
namespace Mine
section
variable {prog : Program} {w : World} {A : Around} {E : Value → Shared → Prop} {s : Shared} {K : Frag} {h₀ : Heap} {L : Addr} {m : Str → Option Value}
theorem s_days {value slice : Expr} {a : Addr} {l : List Value} {dd : Option Addr} {n : Nat} {sl : Array (Option Value)} {k : Int} {u : Tok} {Q : Value → Shared → Prop} (F : Fr h₀ L s.heap m) (X₀ : K.In h₀) (hl : K.lookup a = some ⟨.type "tuple", dd, .seq l.toArray n, sl⟩)
    (h0 : 0 ≤ k) (h1 : k < (l.length : Int)) (h2 : k < 2 ^ 63) (h : ∀ v, v ∈ l → Q v s)
    (hs : subscripted slice false (.ref a) (.int k u) = operate [.ref a, .int k u] (getItem (.ref a) (.int k u)) := by with_unfolding_all rfl) :
    wpAny (model prog w) A (subscriptTail value slice (.ref a) (.int k u)) Q E s := by
  have hlt : k.toNat < l.length := by omega
  exact topTup_K (v := l[k.toNat]) F X₀ hl (by omega) h2 (seqIndex_of h0 (by simpa using h1)) (List.getElem?_eq_getElem hlt) (h _ (List.getElem_mem hlt)) hs
theorem s_mdays {value slice : Expr} {a : Addr} {v0 : Value} {t1 t2 t3 t4 t5 t6 t7 t8 t9 t10 t11 t12 : Tok} {dd : Option Addr} {n : Nat} {sl : Array (Option Value)} {k : Int} {u : Tok} {Q : Value → Shared → Prop} (F : Fr h₀ L s.heap m) (X₀ : K.In h₀)
    (hl : K.lookup a = some ⟨.type "list", dd, .seq [v0, .int 31 t1, .int 28 t2, .int 31 t3, .int 30 t4, .int 31 t5, .int 30 t6, .int 31 t7, .int 31 t8, .int 30 t9, .int 31 t10, .int 30 t11, .int 31 t12].toArray n, sl⟩)
    (h0 : 1 ≤ k) (h1 : k ≤ 12) (h : ∀ t, Q (.int (mlen false k) t) s)
    (hs : subscripted slice false (.ref a) (.int k u) = operate [.ref a, .int k u] (getItem (.ref a) (.int k u)) := by with_unfolding_all rfl) :
    wpAny (model prog w) A (subscriptTail value slice (.ref a) (.int k u)) Q E s := by
  have hx : ∃ t, [v0, .int 31 t1, .int 28 t2, .int 31 t3, .int 30 t4, .int 31 t5, .int 30 t6, .int 31 t7, .int 31 t8, .int 30 t9, .int 31 t10, .int 30 t11, .int 31 t12][k.toNat]? = some (.int (mlen false k) t) := by
    rcases twelve h0 h1 with e | e | e | e | e | e | e | e | e | e | e | e <;> subst e <;> exact ⟨_, rfl⟩
  obtain ⟨t, hx⟩ := hx
  exact topList_K F X₀ hl (by omega) (by omega) hx (h t) hs
end
theorem days_pos (y : Int) {m : Int} (h0 : 1 ≤ m) (h1 : m ≤ 12) : 1 ≤ PySem.Builtin._datetime.daysInMonth y m := by
  unfold PySem.Builtin._datetime.daysInMonth
  split
  · decide
  · rcases twelve h0 h1 with e | e | e | e | e | e | e | e | e | e | e | e <;> subst e <;> decide
theorem wd_lo (y m d : Int) : 0 ≤ PySem.Builtin._datetime.weekdayOf (PySem.Builtin._datetime.toOrdinal y m d) := by unfold PySem.Builtin._datetime.weekdayOf; omega
theorem wd_hi (y m d : Int) : PySem.Builtin._datetime.weekdayOf (PySem.Builtin._datetime.toOrdinal y m d) < 7 := by unfold PySem.Builtin._datetime.weekdayOf; omega
end Mine
end

section -- C15
open PySem PySem.W PySem.Calls PyProof.Rows PySem.Spec PySem.Flt
namespace Mine
local macro_rules | `(tactic| walk_at "none 0") => `(tactic| skip)
local macro_rules | `(tactic| walk_at "none 1") => `(tactic| skip)
local macro_rules | `(tactic| walk_at "none 2") => `(tactic| skip)
local macro_rules | `(tactic| walk_at "none 3") => `(tactic| skip)
local macro_rules | `(tactic| walk_at "none 4") => `(tactic| skip)
local macro_rules | `(tactic| walk_at "none 5") => `(tactic| skip)
local macro_rules | `(tactic| walk_at "none 6") => `(tactic| skip)
local macro_rules | `(tactic| walk_at "none 7") => `(tactic| skip)
local macro_rules | `(tactic| walk_at "none 8") => `(tactic| skip)
local macro_rules | `(tactic| walk_at "none 9") => `(tactic| skip)
local macro_rules | `(tactic| walk_at "none 10") => `(tactic| skip)
local macro_rules | `(tactic| walk_at "none 11") => `(tactic| skip)
local macro_rules | `(tactic| ktr_rel) => `(tactic| first | with_reducible assumption | exact fx_half | exact fx_greg | exact fx_arm | exact fx_sark | exact fx_copt | exact fx_isl | exact fx_law | exact fx_295 | exact fx_365)
local macro_rules | `(tactic| walk_at "binaryOp Add float float") => `(tactic| (refine s_add_ff (by ktr_rel) (by ktr_rel) (by omega) (by omega) ?_; intro z r e f t; (try dsimp only)))
local macro_rules | `(tactic| walk_at "inplaceOp Add float float") => `(tactic| (refine s_iadd_ff (by ktr_rel) (by ktr_rel) (by omega) (by omega) ?_; intro z r e f t; (try dsimp only)))
local macro_rules | `(tactic| walk_at "binaryOp Sub float float") => `(tactic| (refine s_sub_ff (by ktr_rel) (by ktr_rel) (by omega) (by omega) ?_; intro z r e f t; (try dsimp only)))
local macro_rules | `(tactic| walk_at "binaryOp Add float int") => `(tactic| first
  | (refine s_add_fi rfl (by ktr_rel) (by omega) (by omega) (by omega) (by omega) ?_; intro z r e f t; (try dsimp only))
  | (refine s_add_fi_nr rfl (by with_reducible assumption) (by omega) (by omega) (by omega) (by omega) (by omega) ?_; intro z r e f t; (try dsimp only)))
local macro_rules | `(tactic| walk_at "binaryOp Add int float") => `(tactic| (refine s_add_if rfl (by ktr_rel) (by omega) (by omega) (by omega) (by omega) ?_; intro z r e f t; (try dsimp only)))
local macro_rules | `(tactic| walk_at "binaryOp Sub float int") => `(tactic| (refine s_sub_fi rfl (by ktr_rel) (by omega) (by omega) (by omega) (by omega) ?_; intro z r e f t; (try dsimp only)))
local macro_rules | `(tactic| walk_at "binaryOp Sub int float") => `(tactic| (refine s_sub_if rfl (by ktr_rel) (by omega) (by omega) (by omega) (by omega) ?_; intro z r e f t; (try dsimp only)))
local macro_rules | `(tactic| walk_at "binaryOp Mult float int") => `(tactic| (refine s_mul_fi rfl (by ktr_rel) (by omega) (by omega) (by omega) (by omega) ?_; intro z r e f t; (try dsimp only)))
local macro_rules | `(tactic| walk_at "binaryOp Mult int float") => `(tactic| (refine s_mul_if rfl (by ktr_rel) (by omega) (by omega) (by omega) (by omega) ?_; intro z r e f t; (try dsimp only)))
local macro_rules | `(tactic| walk_at "binaryOp Div float float") => `(tactic| (refine s_div_ff rfl (by ktr_rel) (by ktr_rel) (by omega) (by omega) (by omega) ?_; intro z f t; (try dsimp only)))
local macro_rules | `(tactic| walk_at "binaryOp Div float int") => `(tactic| (refine s_div_fi rfl (by ktr_rel) (by omega) (by omega) (by omega) (by omega) ?_; intro z f t; (try dsimp only)))
local macro_rules | `(tactic| walk_at "binaryOp Div int int") => `(tactic| (refine s_div_ii rfl (by omega) (by omega) (by omega) ?_; intro z f t; (try dsimp only)))
local macro_rules | `(tactic| walk_at "binaryOp Mod float int") => `(tactic| (refine s_mod_fi rfl (by ktr_rel) (by omega) (by omega) (by omega) (by omega) ?_; intro z r e f t; (try dsimp only)))
local macro_rules | `(tactic| walk_at "call builtin:math.floor") => `(tactic| first
  | ((with_reducible show wpAny _ _ (call _ [Value.float _ _]) _ _ _); refine s_floor_fx rfl (by ktr_rel) ?_; intro c e t; (try dsimp only))
  | ((with_reducible show wpAny _ _ (call _ [Value.float _ _]) _ _ _); refine s_floor_nr rfl (by with_reducible assumption) (by omega) (by omega) (by omega) (by omega) ?_; intro c e t; (try dsimp only)))
local macro_rules | `(tactic| walk_at "call builtin:math.ceil") => `(tactic| first
  | ((with_reducible show wpAny _ _ (call _ [Value.float _ _]) _ _ _); refine s_ceil_fx rfl (by ktr_rel) ?_; intro c e t; (try dsimp only))
  | ((with_reducible show wpAny _ _ (call _ [Value.float _ _]) _ _ _); refine s_ceil_nr rfl (by with_reducible assumption) (by omega) (by omega) (by omega) (by omega) ?_; intro c e t; (try dsimp only)))
local macro_rules | `(tactic| walk_at "call builtin:math.trunc") => `(tactic| first
  | ((with_reducible show wpAny _ _ (call _ [Value.float _ _]) _ _ _); refine s_trunc_fx rfl (by ktr_rel) (by omega) ?_; intro c e t; (try dsimp only))
  | ((with_reducible show wpAny _ _ (call _ [Value.float _ _]) _ _ _); refine s_trunc_nr rfl (by with_reducible assumption) (by omega) (by omega) (by omega) (by omega) (by omega) ?_; intro c e t; (try dsimp only)))
local macro_rules | `(tactic| walk_at "call type:int") => `(tactic| ((with_reducible show wpAny _ _ (call _ [Value.float _ _]) _ _ _); refine s_int_fx rfl (by ktr_rel) (by omega) ?_; intro c e t; (try dsimp only)))
local macro_rules | `(tactic| walk_at "compareOp Lt float int") => `(tactic| (refine s_lt_fi (by ktr_rel) ?_; intro b e; (try dsimp only)))
local macro_rules | `(tactic| walk_at "compareOp Eq float int") => `(tactic| (refine s_eq_fi (by ktr_rel) ?_; intro b e; (try dsimp only)))
local macro_rules | `(tactic| walk_at "eval Call") => `(tactic| k_dflt (refine Call_ ?_))
local macro_rules | `(tactic| walk_at "compareOp In int ref") => `(tactic| (k_here; (with_unfolding_all refine' in_tup_K ?k1 ?k2 ?k3 ?k4 ?_); (case k1 => k_asm); (case k2 => k_asm); (case k3 => k_is); (case k4 => repeat constructor); intro b e; (try dsimp only)))
local macro_rules | `(tactic| walk_at "call type:datetime.date") => `(tactic| ((with_unfolding_all refine' call_date ?d1 ?d2 ?d3 ?d4 ?d5 ?d6 ?d7 ?d8 ?d9 ?_); (case d1 => k_asm); (case d2 => k_asm); (case d3 => omega); (case d4 => omega); (case d5 => omega); (case d6 => omega); (case d7 => omega); (case d8 => exact days_pos _ (by omega) (by omega)); (case d9 => omega); (intro a9 h9 F9 N9 l9; (try dsimp only); (try k_fold))))
local macro_rules | `(tactic| walk_at "getMethod ref") => `(tactic| ((with_reducible show wpAny _ _ (getMethod _ (Str.ofString "weekday") _) _ _ _); (with_unfolding_all refine' getMethod_weekday ?w1 ?w2 ?_); (case w1 => k_asm); (case w2 => k_mem)))
local macro_rules | `(tactic| walk_at "call builtin:datetime.date.weekday") => `(tactic| ((with_unfolding_all refine' call_weekday ?c1 ?c2 ?_); (case c1 => k_asm); (case c2 => k_mem); (try dsimp only)))
local macro_rules | `(tactic| walk_at "subscriptTail") => `(tactic| first
  | ((with_reducible show wpAny _ _ (subscriptTail _ _ (Value.ref 372) _) _ _ _); (with_unfolding_all refine' s_days ?s1 ?s2 ?s3 ?s4 ?s5 ?s6 ?_ ?s7); (case s1 => k_asm); (case s2 => k_asm); (case s3 => k_is); (case s4 => exact wd_lo _ _ _); (case s5 => exact wd_hi _ _ _); (case s6 => exact Int.lt_trans (wd_hi _ _ _) (by decide)); (case s7 => with_unfolding_all rfl); intro v9 m9)
  | ((with_reducible show wpAny _ _ (subscriptTail _ _ (Value.ref 373) _) _ _ _); (with_unfolding_all refine' s_mdays ?s1 ?s2 ?s3 ?s4 ?s5 ?_ ?s7); (case s1 => k_asm); (case s2 => k_asm); (case s3 => k_is); (case s4 => omega); (case s5 => omega); (case s7 => with_unfolding_all rfl); intro t9))
set_option maxRecDepth 100000 in
set_option maxHeartbeats 8000000 in
theorem c_valid (mm : Int) (u2 : Tok) (hm1 : 1 ≤ mm) (hm2 : mm ≤ 12) : Claim 394 4 32 [.int mm u2] (fun news v news' => v = .none ∧ news = news') := by
  unfold Claim
  k_fill
  intro w loose mean mg mb news dp un gd cn cs a ccd cl outer A₀ base h₀ L m s Q E B F X N T hk hd hu hret
  refine wpAny_call ?_
  k_dflt (refine' code_def (binds := [(Str.ofString "month", .int mm u2)]) ?k1 ?k2 ?k3 ?k4 ?k5 ?kA ?kF ?kK ?k6 ?k7 ?k8 ?k9 ?kB ?_ ?c2 ?c3 ?c4 ?c5; (case kA => exact rfl); (case kF => exact rfl); (case kK => assumption); (case k1 => k_asm); (case k2 => k_asm); (case k3 => k_asm); (case k4 => k_asm); (case k5 => k_asm); (case k6 => k_is); (case k7 => k_is); (case k8 => ktr_room); (case k9 => exact BindsTo.of_eq rfl); (case c5 => decide); (case kB => exact locs rfl); (case c2 => exact rfl); (case c3 => exact rfl); (case c4 => exact rfl); k_whole; intro g' L' h' FG' F' N' B' X' T'; (try dsimp only [List.reverse, List.reverseAux]); (try k_lift B'); (try k_fold))
  k_steps
  all_goals (refine hret _ news _ _ ⟨rfl, rfl⟩ (by k_asm) (by first | k_asm | (refine' cb_drop ?cbN ?cbS; (case cbN => assumption); (case cbS => kcj_all))))
set_option maxRecDepth 100000 in
set_option maxHeartbeats 8000000 in
theorem c_weekday (y mm : Int) (u u2 u3 : Tok) (hm1 : 1 ≤ mm) (hm2 : mm ≤ 12) : Claim 387 8 64 [.int y u, .int mm u2, .int 1 u3] (fun news v news' => news = news') := by
  have q1 := Int.fmod_nonneg_of_pos y (show (0 : Int) < 400 by decide)
  have q2 := Int.fmod_lt_of_pos y (show (0 : Int) < 400 by decide)
  unfold Claim
  k_fill
  intro w loose mean mg mb news dp un gd cn cs a ccd cl outer A₀ base h₀ L m s Q E B F X N T hk hd hu hret
  refine wpAny_call ?_
  k_dflt (refine' code_def (binds := [(Str.ofString "year", .int y u), (Str.ofString "month", .int mm u2), (Str.ofString "day", .int 1 u3)]) ?k1 ?k2 ?k3 ?k4 ?k5 ?kA ?kF ?kK ?k6 ?k7 ?k8 ?k9 ?kB ?_ ?c2 ?c3 ?c4 ?c5; (case kA => exact rfl); (case kF => exact rfl); (case kK => assumption); (case k1 => k_asm); (case k2 => k_asm); (case k3 => k_asm); (case k4 => k_asm); (case k5 => k_asm); (case k6 => k_is); (case k7 => k_is); (case k8 => ktr_room); (case k9 => exact BindsTo.of_eq rfl); (case c5 => decide); (case kB => exact locs rfl); (case c2 => exact rfl); (case c3 => exact rfl); (case c4 => exact rfl); k_whole; intro g' L' h' FG' F' N' B' X' T'; (try dsimp only [List.reverse, List.reverseAux]); (try k_lift B'); (try k_fold))
  k_steps
  all_goals (refine hret _ news _ _ rfl (by k_asm) (by first | k_asm | (refine' cb_drop ?cbN ?cbS; (case cbN => assumption); (case cbS => kcj_all))))
end Mine
end

section -- SO
open PySem PySem.W PySem.Calls PyProof.Rows PySem.Spec PySem.Flt
namespace Mine
open PySem.AutoSeq1
set_option maxRecDepth 100000

theorem meets_int_eq_inst (a : Addr) (ox : Obj) (n m : Int) (t u : Tok) (hd : ox.data = .prim (.int n t)) :
    Meets (Builtin.«int.__eq__» ⟨[.ref a, .int m u], []⟩) (fun _ R s => s.heap.get? a = some ox ∧ R (.ok (.ret (.bool (n == m)))) s) :=
  .of_wp fun prog w A R s h => by
    obtain ⟨hp, g, d, tk, os⟩ := s
    obtain ⟨hl, h⟩ := h
    obtain ⟨c0, d0, data, sl⟩ := ox
    simp only at hd
    subst hd
    wp_walk using wpAny_loadPart' hl
    exact ⟨_, rfl, h⟩

section
variable {prog : Program} {w : World} {A : Around} {E : Value → Shared → Prop} {s : Shared} {K : Frag} {a C : Addr} {n m : Int} {t u : Tok} {ox : Obj} {Q : Value → Shared → Prop}

theorem call_int_eq_inst (X : K.In s.heap) (ho : K.lookup a = some ox) (hd : ox.data = .prim (.int n t)) (hinst : instIn K (.ref a) (.type "int") = some true) (h : Q (.bool (n == m)) s) :
    wpAny (model prog w) A (call (.builtin "int.__eq__") [.ref a, .int m u]) Q E s := by
  refine wpAny_call (codeAny_call_builtin (by decide +kernel) entry_int_eq ?_)
  have hk : builtinKind "int.__eq__" = some .slot := by decide +kernel
  have hsp : splitId "int.__eq__" = some ("int", "__eq__") := by decide +kernel
  simp only [checkBuiltinCall, hk, hsp]
  refine wpAny_bind ((looks_instIn X hinst).here ?_)
  simp only [Bool.not_true, Bool.false_eq_true, if_false]
  have ha := args_int_eq (.ref a) (.int m u)
  have fin := meets_int_eq_inst a ox n m t u hd prog w A (wants Q E) s ⟨X _ _ ho, h⟩
  cases hsig : Manifest.signature? "int.__eq__" with
  | none => exact wpAny_pure fin
  | some sig =>
    simp only [argsOk, hsig] at ha
    have h2 : Bind.checkArgs "int.__eq__" sig ⟨[.ref a, .int m u], []⟩ = pure () := ha
    show wpAny _ _ (Bind.checkArgs "int.__eq__" sig ⟨[.ref a, .int m u], []⟩) _ _ s
    rw [h2]; exact wpAny_pure fin

theorem eq_inst (hu : A.units < cLine) (X : K.In s.heap) (ho : K.lookup a = some ox) (hd : ox.data = .prim (.int n t)) (htyp : typeIn K (.ref a) = some (.ref C)) (hsub : subIn K (.ref C) (.type "int") = some true)
    (hinst : instIn K (.ref a) (.type "int") = some true) (hfind : findIn K (.ref C) (Str.ofString "__eq__") = some (some (.builtin "int.__eq__"))) (h : Q (.bool (n == m)) s) :
    wpAny (model prog w) A (richCompare .Eq (.int m u) (.ref a)) Q E s := by
  have one : wpAny (model prog w) A (tryCompare (.ref a) (Str.ofString "__eq__") (.int m u)) (fun r s' => ∃ v, r = some v ∧ Q v s') E s := by
    unfold tryCompare
    simp only [callSpecialIfBound?, bindSpecialIfBound?]
    refine wpAny_bind ?_
    refine wpAny_holding (wpAny_bind (wpAny_bind (wpAny_bind ((looks_typeIn X htyp).here ((looks_findIn X hfind).here ?_)))))
    refine wpAny_bind (wpAny_askSetting (wpAny_ite ?_))
    have hb := F.slot_int_eq.bind (.ref a)
    have fin : wpAny (model prog w) A (call (.builtin "int.__eq__") ([.ref a] ++ [.int m u]) >>= fun v => pure (some v)) (fun r s' => wpAny (model prog w) A (match r with | some .notImplemented | none => pure none | some v => pure (some v)) (fun r s' => ∃ v, r = some v ∧ Q v s') E s') E s :=
      wpAny_bind (call_int_eq_inst X ho hd hinst (wpAny_pure (wpAny_pure ⟨_, rfl, h⟩)))
    split
    · exact wpAny_bind (by rw [hb]; exact wpAny_pure (wpAny_pure (by exact fin)))
    · exact wpAny_tryCatch (wpAny_bind (by rw [hb]; exact wpAny_pure (wpAny_pure (by exact fin))))
  unfold richCompare
  have e1 : oneThing? .Eq (.int m u) (.ref a) = none := rfl
  simp only [e1]
  refine wpAny_holding (wpAny_bind (wpAny_cRoomFor hu ?_))
  refine wpAny_bind (wpAny_typeOf (T := "int") rfl (wpAny_bind ((looks_typeIn X htyp).here ?_)))
  rw [if_pos (by rfl)]
  refine wpAny_bind ((looks_subIn X hsub).here ?_)
  simp only [if_true]
  refine wpAny_bind (wpAny_mono one (fun r s' z => ?_) fun _ _ e => e)
  obtain ⟨v, rfl, hq⟩ := z
  exact wpAny_bind (wpAny_rule (wpAny_pure hq))

theorem eq_instK {h₀ : Heap} {L : Addr} {mm : Str → Option Value} (F : Fr h₀ L s.heap mm) (X₀ : K.In h₀) (hu : A.units < cLine) (ho : K.lookup a = some ox) (hd : ox.data = .prim (.int n t)) (htyp : typeIn K (.ref a) = some (.ref C)) (hsub : subIn K (.ref C) (.type "int") = some true)
    (hinst : instIn K (.ref a) (.type "int") = some true) (hfind : findIn K (.ref C) (Str.ofString "__eq__") = some (some (.builtin "int.__eq__"))) (h : Q (.bool (n == m)) s) :
    wpAny (model prog w) A (compareOp .Eq (.int m u) (.ref a)) Q E s := cmp_ofEq (eq_inst hu (X₀.keeps F.keep) ho hd htyp hsub hinst hfind h)
end
end Mine
end

section -- C16
open PySem PySem.W PySem.Calls PyProof.Rows PySem.Spec PySem.Flt
namespace Mine
local macro_rules | `(tactic| walk_at "none 0") => `(tactic| skip)
local macro_rules | `(tactic| walk_at "none 1") => `(tactic| skip)
local macro_rules | `(tactic| walk_at "none 2") => `(tactic| skip)
local macro_rules | `(tactic| walk_at "none 3") => `(tactic| skip)
local macro_rules | `(tactic| walk_at "none 4") => `(tactic| skip)
local macro_rules | `(tactic| walk_at "none 5") => `(tactic| skip)
local macro_rules | `(tactic| walk_at "none 6") => `(tactic| skip)
local macro_rules | `(tactic| walk_at "none 7") => `(tactic| skip)
local macro_rules | `(tactic| walk_at "none 8") => `(tactic| skip)
local macro_rules | `(tactic| walk_at "none 9") => `(tactic| skip)
local macro_rules | `(tactic| walk_at "none 10") => `(tactic| skip)
local macro_rules | `(tactic| ktr_rel) => `(tactic| first | with_reducible assumption | exact fx_half | exact fx_greg | exact fx_arm | exact fx_sark | exact fx_copt | exact fx_isl | exact fx_law | exact fx_295 | exact fx_365)
local macro_rules | `(tactic| walk_at "binaryOp Add float float") => `(tactic| (refine s_add_ff (by ktr_rel) (by ktr_rel) (by omega) (by omega) ?_; intro z r e f t; (try dsimp only)))
local macro_rules | `(tactic| walk_at "inplaceOp Add float float") => `(tactic| (refine s_iadd_ff (by ktr_rel) (by ktr_rel) (by omega) (by omega) ?_; intro z r e f t; (try dsimp only)))
local macro_rules | `(tactic| walk_at "binaryOp Sub float float") => `(tactic| (refine s_sub_ff (by ktr_rel) (by ktr_rel) (by omega) (by omega) ?_; intro z r e f t; (try dsimp only)))
local macro_rules | `(tactic| walk_at "binaryOp Add float int") => `(tactic| first
  | (refine s_add_fi rfl (by ktr_rel) (by omega) (by omega) (by omega) (by omega) ?_; intro z r e f t; (try dsimp only))
  | (refine s_add_fi_nr rfl (by with_reducible assumption) (by omega) (by omega) (by omega) (by omega) (by omega) ?_; intro z r e f t; (try dsimp only)))
local macro_rules | `(tactic| walk_at "binaryOp Add int float") => `(tactic| (refine s_add_if rfl (by ktr_rel) (by omega) (by omega) (by omega) (by omega) ?_; intro z r e f t; (try dsimp only)))
local macro_rules | `(tactic| walk_at "binaryOp Sub float int") => `(tactic| (refine s_sub_fi rfl (by ktr_rel) (by omega) (by omega) (by omega) (by omega) ?_; intro z r e f t; (try dsimp only)))
local macro_rules | `(tactic| walk_at "binaryOp Sub int float") => `(tactic| (refine s_sub_if rfl (by ktr_rel) (by omega) (by omega) (by omega) (by omega) ?_; intro z r e f t; (try dsimp only)))
local macro_rules | `(tactic| walk_at "binaryOp Mult float int") => `(tactic| (refine s_mul_fi rfl (by ktr_rel) (by omega) (by omega) (by omega) (by omega) ?_; intro z r e f t; (try dsimp only)))
local macro_rules | `(tactic| walk_at "binaryOp Mult int float") => `(tactic| (refine s_mul_if rfl (by ktr_rel) (by omega) (by omega) (by omega) (by omega) ?_; intro z r e f t; (try dsimp only)))
local macro_rules | `(tactic| walk_at "binaryOp Div float float") => `(tactic| (refine s_div_ff rfl (by ktr_rel) (by ktr_rel) (by omega) (by omega) (by omega) ?_; intro z f t; (try dsimp only)))
local macro_rules | `(tactic| walk_at "binaryOp Div float int") => `(tactic| (refine s_div_fi rfl (by ktr_rel) (by omega) (by omega) (by omega) (by omega) ?_; intro z f t; (try dsimp only)))
local macro_rules | `(tactic| walk_at "binaryOp Div int int") => `(tactic| (refine s_div_ii rfl (by omega) (by omega) (by omega) ?_; intro z f t; (try dsimp only)))
local macro_rules | `(tactic| walk_at "binaryOp Mod float int") => `(tactic| (refine s_mod_fi rfl (by ktr_rel) (by omega) (by omega) (by omega) (by omega) ?_; intro z r e f t; (try dsimp only)))
local macro_rules | `(tactic| walk_at "call builtin:math.floor") => `(tactic| first
  | ((with_reducible show wpAny _ _ (call _ [Value.float _ _]) _ _ _); refine s_floor_fx rfl (by ktr_rel) ?_; intro c e t; (try dsimp only))
  | ((with_reducible show wpAny _ _ (call _ [Value.float _ _]) _ _ _); refine s_floor_nr rfl (by with_reducible assumption) (by omega) (by omega) (by omega) (by omega) ?_; intro c e t; (try dsimp only)))
local macro_rules | `(tactic| walk_at "call builtin:math.ceil") => `(tactic| first
  | ((with_reducible show wpAny _ _ (call _ [Value.float _ _]) _ _ _); refine s_ceil_fx rfl (by ktr_rel) ?_; intro c e t; (try dsimp only))
  | ((with_reducible show wpAny _ _ (call _ [Value.float _ _]) _ _ _); refine s_ceil_nr rfl (by with_reducible assumption) (by omega) (by omega) (by omega) (by omega) ?_; intro c e t; (try dsimp only)))
local macro_rules | `(tactic| walk_at "call builtin:math.trunc") => `(tactic| first
  | ((with_reducible show wpAny _ _ (call _ [Value.float _ _]) _ _ _); refine s_trunc_fx rfl (by ktr_rel) (by omega) ?_; intro c e t; (try dsimp only))
  | ((with_reducible show wpAny _ _ (call _ [Value.float _ _]) _ _ _); refine s_trunc_nr rfl (by with_reducible assumption) (by omega) (by omega) (by omega) (by omega) (by omega) ?_; intro c e t; (try dsimp only)))
local macro_rules | `(tactic| walk_at "call type:int") => `(tactic| ((with_reducible show wpAny _ _ (call _ [Value.float _ _]) _ _ _); refine s_int_fx rfl (by ktr_rel) (by omega) ?_; intro c e t; (try dsimp only)))
local macro_rules | `(tactic| walk_at "compareOp Lt float int") => `(tactic| (refine s_lt_fi (by ktr_rel) ?_; intro b e; (try dsimp only)))
local macro_rules | `(tactic| walk_at "compareOp Eq float int") => `(tactic| (refine s_eq_fi (by ktr_rel) ?_; intro b e; (try dsimp only)))
local macro_rules | `(tactic| walk_at "eval Call") => `(tactic| k_dflt (refine Call_ ?_))
local macro_rules | `(tactic| walk_at "compareOp In int ref") => `(tactic| (k_here; (with_unfolding_all refine' in_tup_K ?k1 ?k2 ?k3 ?k4 ?_); (case k1 => k_asm); (case k2 => k_asm); (case k3 => k_is); (case k4 => repeat constructor); intro b e; (try dsimp only)))
local macro_rules | `(tactic| walk_at "call type:datetime.date") => `(tactic| ((with_unfolding_all refine' call_date ?d1 ?d2 ?d3 ?d4 ?d5 ?d6 ?d7 ?d8 ?d9 ?_); (case d1 => k_asm); (case d2 => k_asm); (case d3 => omega); (case d4 => omega); (case d5 => omega); (case d6 => omega); (case d7 => omega); (case d8 => exact days_pos _ (by omega) (by omega)); (case d9 => omega); (intro a9 h9 F9 N9 l9; (try dsimp only); (try k_fold))))
local macro_rules | `(tactic| walk_at "getMethod ref") => `(tactic| ((with_reducible show wpAny _ _ (getMethod _ (Str.ofString "weekday") _) _ _ _); (with_unfolding_all refine' getMethod_weekday ?w1 ?w2 ?_); (case w1 => k_asm); (case w2 => k_mem)))
local macro_rules | `(tactic| walk_at "call builtin:datetime.date.weekday") => `(tactic| ((with_unfolding_all refine' call_weekday ?c1 ?c2 ?_); (case c1 => k_asm); (case c2 => k_mem); (try dsimp only)))
local macro_rules | `(tactic| walk_at "subscriptTail") => `(tactic| first
  | ((with_reducible show wpAny _ _ (subscriptTail _ _ (Value.ref 372) _) _ _ _); (with_unfolding_all refine' s_days ?s1 ?s2 ?s3 ?s4 ?s5 ?s6 ?_ ?s7); (case s1 => k_asm); (case s2 => k_asm); (case s3 => k_is); (case s4 => exact wd_lo _ _ _); (case s5 => exact wd_hi _ _ _); (case s6 => exact Int.lt_trans (wd_hi _ _ _) (by decide)); (case s7 => with_unfolding_all rfl); intro v9 m9)
  | ((with_reducible show wpAny _ _ (subscriptTail _ _ (Value.ref 373) _) _ _ _); (with_unfolding_all refine' s_mdays ?s1 ?s2 ?s3 ?s4 ?s5 ?_ ?s7); (case s1 => k_asm); (case s2 => k_asm); (case s3 => k_is); (case s4 => omega); (case s5 => omega); (case s7 => with_unfolding_all rfl); intro t9))
local macro_rules | `(tactic| walk_at "compareOp Eq int ref") => `(tactic| (k_here; (with_unfolding_all refine' eq_instK ?e1 ?e2 ?e3 ?e4 ?e5 ?e6 ?e7 ?e8 ?e9 ?_); (case e1 => k_asm); (case e2 => k_asm); (case e3 => ktr_units); (case e4 => k_is); (case e5 => with_unfolding_all exact rfl); (case e6 => k_is); (case e7 => k_is); (case e8 => k_is); (case e9 => k_is)))
local macro_rules | `(tactic| walk_at "call ref") => `(tactic| first
  | ((with_reducible show wpAny _ _ (call (Value.ref 394) _) _ _ _); (with_unfolding_all refine' Claim.use (c_valid _ _ (by omega) (by omega)) ?k1 ?k2 ?k3 ?k4 ?k5 ?k6 ?k7 ?k8 ?_); (case k1 => k_asm); (case k2 => k_asm); (case k3 => k_asm); (case k4 => k_asm); (case k5 => k_asm); (case k6 => first | exact rfl | assumption); (case k7 => ktr_room); (case k8 => ktr_units); (intro v9 n9 h9 tk9 p9 F9 N9; obtain ⟨e9, e8⟩ := p9; subst e9; subst e8); (try dsimp only); (try k_fold))
  | ((with_reducible show wpAny _ _ (call (Value.ref 387) _) _ _ _); (with_unfolding_all refine' Claim.use (c_weekday _ _ _ _ _ (by omega) (by omega)) ?k1 ?k2 ?k3 ?k4 ?k5 ?k6 ?k7 ?k8 ?_); (case k1 => k_asm); (case k2 => k_asm); (case k3 => k_asm); (case k4 => k_asm); (case k5 => k_asm); (case k6 => first | exact rfl | assumption); (case k7 => ktr_room); (case k8 => ktr_units); (intro v9 n9 h9 tk9 p9 F9 N9; subst p9); (try dsimp only); (try k_fold))
  | ((with_reducible show wpAny _ _ (call (Value.ref 380) _) _ _ _); (with_unfolding_all refine' Claim.use (c_isleap _ _) ?k1 ?k2 ?k3 ?k4 ?k5 ?k6 ?k7 ?k8 ?_); (case k1 => k_asm); (case k2 => k_asm); (case k3 => k_asm); (case k4 => k_asm); (case k5 => k_asm); (case k6 => first | exact rfl | assumption); (case k7 => ktr_room); (case k8 => ktr_units); (intro v9 n9 h9 tk9 p9 F9 N9; obtain ⟨e9, e8⟩ := p9; subst e9; subst e8); (try dsimp only); (try k_fold)))
theorem ml_yes {y mm : Int} (h : 2 = mm) : (mlen false mm + if gleap y = true then 1 else 0) = mlen (gleap y) mm := by
  subst h; unfold mlen; cases gleap y <;> simp
theorem ml_no {y mm : Int} (h : 2 ≠ mm) : (mlen false mm + if (2 == mm) = true then 1 else 0) = mlen (gleap y) mm := by
  have h2 : ¬ mm = 2 := fun e => h e.symm
  have hb : (2 == mm) = false := by simpa using h
  rw [hb]
  unfold mlen
  simp [h2]
/-- a pair comes back, its second the month's length -/
abbrev GivesP (n : Int) : List (Addr × Obj) → Value → List (Addr × Obj) → Prop := fun news v news' =>
  ∃ a v1 i t, v = .ref a ∧ news' = (a, { cls := .type "tuple", data := .seq #[v1, .int i t] }) :: news ∧ i = n
set_option maxRecDepth 100000 in
set_option maxHeartbeats 8000000 in
theorem c_mrange (y mm : Int) (u u2 : Tok) (hm1 : 1 ≤ mm) (hm2 : mm ≤ 12) : Claim 401 12 128 [.int y u, .int mm u2] (GivesP (mlen (gleap y) mm)) := by
  unfold Claim
  k_fill
  intro w loose mean mg mb news dp un gd cn cs a ccd cl outer A₀ base h₀ L m s Q E B F X N T hk hd hu hret
  refine wpAny_call ?_
  k_dflt (refine' code_def (binds := [(Str.ofString "year", .int y u), (Str.ofString "month", .int mm u2)]) ?k1 ?k2 ?k3 ?k4 ?k5 ?kA ?kF ?kK ?k6 ?k7 ?k8 ?k9 ?kB ?_ ?c2 ?c3 ?c4 ?c5; (case kA => exact rfl); (case kF => exact rfl); (case kK => assumption); (case k1 => k_asm); (case k2 => k_asm); (case k3 => k_asm); (case k4 => k_asm); (case k5 => k_asm); (case k6 => k_is); (case k7 => k_is); (case k8 => ktr_room); (case k9 => exact BindsTo.of_eq rfl); (case c5 => decide); (case kB => exact locs rfl); (case c2 => exact rfl); (case c3 => exact rfl); (case c4 => exact rfl); k_whole; intro g' L' h' FG' F' N' B' X' T'; (try dsimp only [List.reverse, List.reverseAux]); (try k_lift B'); (try k_fold))
  k_steps
  all_goals (refine hret _ _ _ _ ⟨_, _, _, _, rfl, rfl, ?_⟩ (by k_asm) (by k_asm))
  all_goals first | exact ml_yes (by assumption) | exact ml_no (by assumption)
end Mine
end

section -- C17
open PySem PySem.W PySem.Calls PyProof.Rows PySem.Spec PySem.Flt
namespace Mine
local macro_rules | `(tactic| walk_at "none 0") => `(tactic| skip)
local macro_rules | `(tactic| walk_at "none 1") => `(tactic| skip)
local macro_rules | `(tactic| walk_at "none 2") => `(tactic| skip)
local macro_rules | `(tactic| walk_at "none 3") => `(tactic| skip)
local macro_rules | `(tactic| walk_at "none 4") => `(tactic| skip)
local macro_rules | `(tactic| walk_at "none 5") => `(tactic| skip)
local macro_rules | `(tactic| walk_at "none 6") => `(tactic| skip)
local macro_rules | `(tactic| walk_at "none 7") => `(tactic| skip)
local macro_rules | `(tactic| walk_at "none 8") => `(tactic| skip)
local macro_rules | `(tactic| walk_at "none 9") => `(tactic| skip)
local macro_rules | `(tactic| walk_at "none 10") => `(tactic| skip)
local macro_rules | `(tactic| walk_at "none 11") => `(tactic| skip)
local macro_rules | `(tactic| walk_at "none 12") => `(tactic| skip)
local macro_rules | `(tactic| walk_at "none 13") => `(tactic| skip)
local macro_rules | `(tactic| walk_at "none 14") => `(tactic| skip)
local macro_rules | `(tactic| walk_at "none 15") => `(tactic| skip)
local macro_rules | `(tactic| walk_at "none 16") => `(tactic| skip)
local macro_rules | `(tactic| ktr_rel) => `(tactic| first | with_reducible assumption | exact fx_half | exact fx_greg | exact fx_arm | exact fx_sark | exact fx_copt | exact fx_isl | exact fx_law | exact fx_295 | exact fx_365)
local macro_rules | `(tactic| walk_at "binaryOp Add float float") => `(tactic| (refine s_add_ff (by ktr_rel) (by ktr_rel) (by omega) (by omega) ?_; intro z r e f t; (try dsimp only)))
local macro_rules | `(tactic| walk_at "inplaceOp Add float float") => `(tactic| (refine s_iadd_ff (by ktr_rel) (by ktr_rel) (by omega) (by omega) ?_; intro z r e f t; (try dsimp only)))
local macro_rules | `(tactic| walk_at "binaryOp Sub float float") => `(tactic| (refine s_sub_ff (by ktr_rel) (by ktr_rel) (by omega) (by omega) ?_; intro z r e f t; (try dsimp only)))
local macro_rules | `(tactic| walk_at "binaryOp Add float int") => `(tactic| first
  | (refine s_add_fi rfl (by ktr_rel) (by omega) (by omega) (by omega) (by omega) ?_; intro z r e f t; (try dsimp only))
  | (refine s_add_fi_nr rfl (by with_reducible assumption) (by omega) (by omega) (by omega) (by omega) (by omega) ?_; intro z r e f t; (try dsimp only)))
local macro_rules | `(tactic| walk_at "binaryOp Add int float") => `(tactic| (refine s_add_if rfl (by ktr_rel) (by omega) (by omega) (by omega) (by omega) ?_; intro z r e f t; (try dsimp only)))
local macro_rules | `(tactic| walk_at "binaryOp Sub float int") => `(tactic| (refine s_sub_fi rfl (by ktr_rel) (by omega) (by omega) (by omega) (by omega) ?_; intro z r e f t; (try dsimp only)))
local macro_rules | `(tactic| walk_at "binaryOp Sub int float") => `(tactic| (refine s_sub_if rfl (by ktr_rel) (by omega) (by omega) (by omega) (by omega) ?_; intro z r e f t; (try dsimp only)))
local macro_rules | `(tactic| walk_at "binaryOp Mult float int") => `(tactic| (refine s_mul_fi rfl (by ktr_rel) (by omega) (by omega) (by omega) (by omega) ?_; intro z r e f t; (try dsimp only)))
local macro_rules | `(tactic| walk_at "binaryOp Mult int float") => `(tactic| (refine s_mul_if rfl (by ktr_rel) (by omega) (by omega) (by omega) (by omega) ?_; intro z r e f t; (try dsimp only)))
local macro_rules | `(tactic| walk_at "binaryOp Div float float") => `(tactic| (refine s_div_ff rfl (by ktr_rel) (by ktr_rel) (by omega) (by omega) (by omega) ?_; intro z f t; (try dsimp only)))
local macro_rules | `(tactic| walk_at "binaryOp Div float int") => `(tactic| (refine s_div_fi rfl (by ktr_rel) (by omega) (by omega) (by omega) (by omega) ?_; intro z f t; (try dsimp only)))
local macro_rules | `(tactic| walk_at "binaryOp Div int int") => `(tactic| (refine s_div_ii rfl (by omega) (by omega) (by omega) ?_; intro z f t; (try dsimp only)))
local macro_rules | `(tactic| walk_at "binaryOp Mod float int") => `(tactic| (refine s_mod_fi rfl (by ktr_rel) (by omega) (by omega) (by omega) (by omega) ?_; intro z r e f t; (try dsimp only)))
local macro_rules | `(tactic| walk_at "call builtin:math.floor") => `(tactic| first
  | ((with_reducible show wpAny _ _ (call _ [Value.float _ _]) _ _ _); refine s_floor_fx rfl (by ktr_rel) ?_; intro c e t; (try dsimp only))
  | ((with_reducible show wpAny _ _ (call _ [Value.float _ _]) _ _ _); refine s_floor_nr rfl (by with_reducible assumption) (by omega) (by omega) (by omega) (by omega) ?_; intro c e t; (try dsimp only)))
local macro_rules | `(tactic| walk_at "call builtin:math.ceil") => `(tactic| first
  | ((with_reducible show wpAny _ _ (call _ [Value.float _ _]) _ _ _); refine s_ceil_fx rfl (by ktr_rel) ?_; intro c e t; (try dsimp only))
  | ((with_reducible show wpAny _ _ (call _ [Value.float _ _]) _ _ _); refine s_ceil_nr rfl (by with_reducible assumption) (by omega) (by omega) (by omega) (by omega) ?_; intro c e t; (try dsimp only)))
local macro_rules | `(tactic| walk_at "call builtin:math.trunc") => `(tactic| first
  | ((with_reducible show wpAny _ _ (call _ [Value.float _ _]) _ _ _); refine s_trunc_fx rfl (by ktr_rel) (by omega) ?_; intro c e t; (try dsimp only))
  | ((with_reducible show wpAny _ _ (call _ [Value.float _ _]) _ _ _); refine s_trunc_nr rfl (by with_reducible assumption) (by omega) (by omega) (by omega) (by omega) (by omega) ?_; intro c e t; (try dsimp only)))
local macro_rules | `(tactic| walk_at "call type:int") => `(tactic| ((with_reducible show wpAny _ _ (call _ [Value.float _ _]) _ _ _); refine s_int_fx rfl (by ktr_rel) (by omega) ?_; intro c e t; (try dsimp only)))
local macro_rules | `(tactic| walk_at "compareOp Lt float int") => `(tactic| (refine s_lt_fi (by ktr_rel) ?_; intro b e; (try dsimp only)))
local macro_rules | `(tactic| walk_at "compareOp Eq float int") => `(tactic| (refine s_eq_fi (by ktr_rel) ?_; intro b e; (try dsimp only)))
local macro_rules | `(tactic| walk_at "eval Call") => `(tactic| k_dflt (refine Call_ ?_))
local macro_rules | `(tactic| walk_at "compareOp In int ref") => `(tactic| (k_here; (with_unfolding_all refine' in_tup_K ?k1 ?k2 ?k3 ?k4 ?_); (case k1 => k_asm); (case k2 => k_asm); (case k3 => k_is); (case k4 => repeat constructor); intro b e; (try dsimp only)))
local macro_rules | `(tactic| walk_at "call ref") => `(tactic| ((with_reducible show wpAny _ _ (call (Value.ref 401) _) _ _ _); (with_unfolding_all refine' Claim.use (c_mrange _ _ _ _ (by omega) (by omega)) ?k1 ?k2 ?k3 ?k4 ?k5 ?k6 ?k7 ?k8 ?_); (case k1 => k_asm); (case k2 => k_asm); (case k3 => k_asm); (case k4 => k_asm); (case k5 => k_asm); (case k6 => first | exact rfl | assumption); (case k7 => ktr_room); (case k8 => ktr_units); (intro v9 n9 h9 tk9 p9 F9 N9; obtain ⟨a8, v8, i8, t8, e9, e8, e7⟩ := p9; subst e9; subst e8); (try dsimp only); (try k_fold)))
set_option maxRecDepth 100000 in
set_option maxHeartbeats 8000000 in
theorem l_greg (y mm : Int) (u u2 : Tok) (hm1 : 1 ≤ mm) (hm2 : mm ≤ 12) : Claim 429 16 160 [.int y u, .int mm u2] (GivesI (Len 0 y mm)) := by
  unfold Claim
  k_fill
  intro w loose mean mg mb news dp un gd cn cs a ccd cl outer A₀ base h₀ L m s Q E B F X N T hk hd hu hret
  refine wpAny_call ?_
  k_dflt (refine' code_def (binds := [(Str.ofString "year", .int y u), (Str.ofString "month", .int mm u2)]) ?k1 ?k2 ?k3 ?k4 ?k5 ?kA ?kF ?kK ?k6 ?k7 ?k8 ?k9 ?kB ?_ ?c2 ?c3 ?c4 ?c5; (case kA => exact rfl); (case kF => exact rfl); (case kK => assumption); (case k1 => k_asm); (case k2 => k_asm); (case k3 => k_asm); (case k4 => k_asm); (case k5 => k_asm); (case k6 => k_is); (case k7 => k_is); (case k8 => ktr_room); (case k9 => exact BindsTo.of_eq rfl); (case c5 => decide); (case kB => exact locs rfl); (case c2 => exact rfl); (case c3 => exact rfl); (case c4 => exact rfl); k_whole; intro g' L' h' FG' F' N' B' X' T'; (try dsimp only [List.reverse, List.reverseAux]); (try k_lift B'); (try k_fold))
  k_steps
  all_goals (refine hret _ news _ _ ⟨int_eq ?_, rfl⟩ (by k_asm) (by first | k_asm | (refine' cb_drop ?cbN ?cbS; (case cbN => assumption); (case cbS => kcj_all))))
  all_goals (rw [len0]; assumption)
end Mine
end

section -- C18
open PySem PySem.W PySem.Calls PyProof.Rows PySem.Spec PySem.Flt
namespace Mine
local macro_rules | `(tactic| walk_at "eval Call") => `(tactic| k_dflt (refine Call_ ?_))
local macro_rules | `(tactic| walk_at "call ref") => `(tactic| first
  | ((with_reducible show wpAny _ _ (call (Value.ref 422) _) _ _ _); (with_unfolding_all refine' Claim.use (c_greg _ _ _ (by with_reducible assumption) (by assumption) (by assumption)) ?k1 ?k2 ?k3 ?k4 ?k5 ?k6 ?k7 ?k8 ?_); (case k1 => k_asm); (case k2 => k_asm); (case k3 => k_asm); (case k4 => k_asm); (case k5 => k_asm); (case k6 => first | exact rfl | assumption); (case k7 => ktr_room); (case k8 => ktr_units); (intro v9 n9 h9 tk9 p9 F9 N9; obtain ⟨a8, y8, m8, d8, t1, t2, t3, e9, e8, dat8⟩ := p9; subst e9; subst e8); (try dsimp only); (try k_fold))
  | ((with_reducible show wpAny _ _ (call (Value.ref 531) _) _ _ _); (with_unfolding_all refine' Claim.use (c_jul _ _ _ (by with_reducible assumption) (by assumption) (by assumption)) ?k1 ?k2 ?k3 ?k4 ?k5 ?k6 ?k7 ?k8 ?_); (case k1 => k_asm); (case k2 => k_asm); (case k3 => k_asm); (case k4 => k_asm); (case k5 => k_asm); (case k6 => first | exact rfl | assumption); (case k7 => ktr_room); (case k8 => ktr_units); (intro v9 n9 h9 tk9 p9 F9 N9; obtain ⟨a8, y8, m8, d8, t1, t2, t3, e9, e8, dat8⟩ := p9; subst e9; subst e8); (try dsimp only); (try k_fold))
  | ((with_reducible show wpAny _ _ (call (Value.ref 502) _) _ _ _); (with_unfolding_all refine' Claim.use (c_isl _ _ _ (by with_reducible assumption) (by assumption) (by assumption)) ?k1 ?k2 ?k3 ?k4 ?k5 ?k6 ?k7 ?k8 ?_); (case k1 => k_asm); (case k2 => k_asm); (case k3 => k_asm); (case k4 => k_asm); (case k5 => k_asm); (case k6 => first | exact rfl | assumption); (case k7 => ktr_room); (case k8 => ktr_units); (intro v9 n9 h9 tk9 p9 F9 N9; obtain ⟨a8, y8, m8, d8, t1, t2, t3, e9, e8, dat8⟩ := p9; subst e9; subst e8); (try dsimp only); (try k_fold))
  | ((with_reducible show wpAny _ _ (call (Value.ref 473) _) _ _ _); (with_unfolding_all refine' Claim.use (c_cop _ _ _ (by with_reducible assumption) (by assumption) (by assumption)) ?k1 ?k2 ?k3 ?k4 ?k5 ?k6 ?k7 ?k8 ?_); (case k1 => k_asm); (case k2 => k_asm); (case k3 => k_asm); (case k4 => k_asm); (case k5 => k_asm); (case k6 => first | exact rfl | assumption); (case k7 => ktr_room); (case k8 => ktr_units); (intro v9 n9 h9 tk9 p9 F9 N9; obtain ⟨a8, y8, m8, d8, t1, t2, t3, e9, e8, dat8⟩ := p9; subst e9; subst e8); (try dsimp only); (try k_fold))
  | ((with_reducible show wpAny _ _ (call (Value.ref 444) [_]) _ _ _); (with_unfolding_all refine' Claim.use (c_arm _ _ _ (by with_reducible assumption) (by assumption) (by assumption)) ?k1 ?k2 ?k3 ?k4 ?k5 ?k6 ?k7 ?k8 ?_); (case k1 => k_asm); (case k2 => k_asm); (case k3 => k_asm); (case k4 => k_asm); (case k5 => k_asm); (case k6 => first | exact rfl | assumption); (case k7 => ktr_room); (case k8 => ktr_units); (intro v9 n9 h9 tk9 p9 F9 N9; obtain ⟨a8, y8, m8, d8, t1, t2, t3, e9, e8, dat8⟩ := p9; subst e9; subst e8); (try dsimp only); (try k_fold))
  | ((with_reducible show wpAny _ _ (call (Value.ref 444) [_, _]) _ _ _); (with_unfolding_all refine' Claim.use (c_sark _ _ _ _ (by with_reducible assumption) (by assumption) (by assumption)) ?k1 ?k2 ?k3 ?k4 ?k5 ?k6 ?k7 ?k8 ?_); (case k1 => k_asm); (case k2 => k_asm); (case k3 => k_asm); (case k4 => k_asm); (case k5 => k_asm); (case k6 => first | exact rfl | assumption); (case k7 => ktr_room); (case k8 => ktr_units); (intro v9 n9 h9 tk9 p9 F9 N9; obtain ⟨a8, y8, m8, d8, t1, t2, t3, e9, e8, dat8⟩ := p9; subst e9; subst e8); (try dsimp only); (try k_fold)))
theorem dat_k {k j N y m d : Int} (h : Dat j N y m d) (e : k = j) : Dat k N y m d := e ▸ h
set_option maxRecDepth 100000 in
set_option maxHeartbeats 8000000 in
theorem c_date (k N : Int) (x : UInt64) (u u2 : Tok) (fx : Fx x (4 * N + 2)) (hN1 : 2117599 ≤ N) (hN2 : N ≤ 30000000) (hk0 : 0 ≤ k) (hk5 : k ≤ 5) : Claim 538 24 256 [.int k u, .float x u2] (GivesD k N) := by
  unfold Claim
  k_fill
  intro w loose mean mg mb news dp un gd cn cs a ccd cl outer A₀ base h₀ L m s Q E B F X N T hk hd hu hret
  refine wpAny_call ?_
  k_dflt (refine' code_def (binds := [(Str.ofString "kind", .int k u), (Str.ofString "number", .float x u2)]) ?k1 ?k2 ?k3 ?k4 ?k5 ?kA ?kF ?kK ?k6 ?k7 ?k8 ?k9 ?kB ?_ ?c2 ?c3 ?c4 ?c5; (case kA => exact rfl); (case kF => exact rfl); (case kK => assumption); (case k1 => k_asm); (case k2 => k_asm); (case k3 => k_asm); (case k4 => k_asm); (case k5 => k_asm); (case k6 => k_is); (case k7 => k_is); (case k8 => ktr_room); (case k9 => exact BindsTo.of_eq rfl); (case c5 => decide); (case kB => exact locs rfl); (case c2 => exact rfl); (case c3 => exact rfl); (case c4 => exact rfl); k_whole; intro g' L' h' FG' F' N' B' X' T'; (try dsimp only [List.reverse, List.reverseAux]); (try k_lift B'); (try k_fold))
  k_steps
  all_goals (refine hret _ _ _ _ ⟨_, _, _, _, _, _, _, rfl, rfl, ?_⟩ (by k_asm) (by k_asm))
  all_goals exact dat_k (by with_reducible assumption) (by omega)
end Mine
end

section -- C19
open PySem PySem.W PySem.Calls PyProof.Rows PySem.Spec PySem.Flt
namespace Mine
local macro_rules | `(tactic| walk_at "none 0") => `(tactic| skip)
local macro_rules | `(tactic| walk_at "eval Call") => `(tactic| k_dflt (refine Call_ ?_))
local macro_rules | `(tactic| walk_at "call ref") => `(tactic| first
  | ((with_reducible show wpAny _ _ (call (Value.ref 429) _) _ _ _); (with_unfolding_all refine' Claim.use (l_greg _ _ _ _ (by omega) (by omega)) ?k1 ?k2 ?k3 ?k4 ?k5 ?k6 ?k7 ?k8 ?_); (case k1 => k_asm); (case k2 => k_asm); (case k3 => k_asm); (case k4 => k_asm); (case k5 => k_asm); (case k6 => first | exact rfl | assumption); (case k7 => ktr_room); (case k8 => ktr_units); (intro v9 n9 h9 tk9 p9 F9 N9; obtain ⟨⟨t9, e9⟩, e8⟩ := p9; subst e9; subst e8); (try dsimp only); (try k_fold))
  | ((with_reducible show wpAny _ _ (call (Value.ref 524) _) _ _ _); (with_unfolding_all refine' Claim.use (l_jul _ _ _ _ 0 (by omega) (by omega)) ?k1 ?k2 ?k3 ?k4 ?k5 ?k6 ?k7 ?k8 ?_); (case k1 => k_asm); (case k2 => k_asm); (case k3 => k_asm); (case k4 => k_asm); (case k5 => k_asm); (case k6 => first | exact rfl | assumption); (case k7 => ktr_room); (case k8 => ktr_units); (intro v9 n9 h9 tk9 p9 F9 N9; obtain ⟨⟨t9, e9⟩, e8⟩ := p9; subst e9; subst e8); (try dsimp only); (try k_fold))
  | ((with_reducible show wpAny _ _ (call (Value.ref 509) _) _ _ _); (with_unfolding_all refine' Claim.use (l_isl _ _ _ _ 0 (by omega) (by omega)) ?k1 ?k2 ?k3 ?k4 ?k5 ?k6 ?k7 ?k8 ?_); (case k1 => k_asm); (case k2 => k_asm); (case k3 => k_asm); (case k4 => k_asm); (case k5 => k_asm); (case k6 => first | exact rfl | assumption); (case k7 => ktr_room); (case k8 => ktr_units); (intro v9 n9 h9 tk9 p9 F9 N9; obtain ⟨⟨t9, e9⟩, e8⟩ := p9; subst e9; subst e8); (try dsimp only); (try k_fold))
  | ((with_reducible show wpAny _ _ (call (Value.ref 480) _) _ _ _); (with_unfolding_all refine' Claim.use (l_cop _ _ _ _ 0 (by omega) (by omega)) ?k1 ?k2 ?k3 ?k4 ?k5 ?k6 ?k7 ?k8 ?_); (case k1 => k_asm); (case k2 => k_asm); (case k3 => k_asm); (case k4 => k_asm); (case k5 => k_asm); (case k6 => first | exact rfl | assumption); (case k7 => ktr_room); (case k8 => ktr_units); (intro v9 n9 h9 tk9 p9 F9 N9; obtain ⟨⟨t9, e9⟩, e8⟩ := p9; subst e9; subst e8); (try dsimp only); (try k_fold))
  | ((with_reducible show wpAny _ _ (call (Value.ref 452) [_, _]) _ _ _); (with_unfolding_all refine' Claim.use (l_arm _ _ _ _ 0 (by omega) (by omega)) ?k1 ?k2 ?k3 ?k4 ?k5 ?k6 ?k7 ?k8 ?_); (case k1 => k_asm); (case k2 => k_asm); (case k3 => k_asm); (case k4 => k_asm); (case k5 => k_asm); (case k6 => first | exact rfl | assumption); (case k7 => ktr_room); (case k8 => ktr_units); (intro v9 n9 h9 tk9 p9 F9 N9; obtain ⟨⟨t9, e9⟩, e8⟩ := p9; subst e9; subst e8); (try dsimp only); (try k_fold))
  | ((with_reducible show wpAny _ _ (call (Value.ref 452) [_, _, _]) _ _ _); (with_unfolding_all refine' Claim.use (l_sark _ _ _ _ _ (by omega) (by omega)) ?k1 ?k2 ?k3 ?k4 ?k5 ?k6 ?k7 ?k8 ?_); (case k1 => k_asm); (case k2 => k_asm); (case k3 => k_asm); (case k4 => k_asm); (case k5 => k_asm); (case k6 => first | exact rfl | assumption); (case k7 => ktr_room); (case k8 => ktr_units); (intro v9 n9 h9 tk9 p9 F9 N9; obtain ⟨⟨t9, e9⟩, e8⟩ := p9; subst e9; subst e8); (try dsimp only); (try k_fold)))
theorem len_k {k j y m : Int} (e : k = j) : Len j y m = Len k y m := e ▸ rfl
set_option maxRecDepth 100000 in
set_option maxHeartbeats 8000000 in
theorem c_len (k y mm : Int) (u u2 u3 : Tok) (hk0 : 0 ≤ k) (hk5 : k ≤ 5) (hm1 : 1 ≤ mm) (hm2 : mm ≤ 13) (hm3 : k < 3 → mm ≤ 12) : Claim 545 24 256 [.int k u, .int y u2, .int mm u3] (GivesI (Len k y mm)) := by
  unfold Claim
  k_fill
  intro w loose mean mg mb news dp un gd cn cs a ccd cl outer A₀ base h₀ L m s Q E B F X N T hk hd hu hret
  refine wpAny_call ?_
  k_dflt (refine' code_def (binds := [(Str.ofString "kind", .int k u), (Str.ofString "year", .int y u2), (Str.ofString "month", .int mm u3)]) ?k1 ?k2 ?k3 ?k4 ?k5 ?kA ?kF ?kK ?k6 ?k7 ?k8 ?k9 ?kB ?_ ?c2 ?c3 ?c4 ?c5; (case kA => exact rfl); (case kF => exact rfl); (case kK => assumption); (case k1 => k_asm); (case k2 => k_asm); (case k3 => k_asm); (case k4 => k_asm); (case k5 => k_asm); (case k6 => k_is); (case k7 => k_is); (case k8 => ktr_room); (case k9 => exact BindsTo.of_eq rfl); (case c5 => decide); (case kB => exact locs rfl); (case c2 => exact rfl); (case c3 => exact rfl); (case c4 => exact rfl); k_whole; intro g' L' h' FG' F' N' B' X' T'; (try dsimp only [List.reverse, List.reverseAux]); (try k_lift B'); (try k_fold))
  k_steps
  all_goals (refine hret _ news _ _ ⟨int_eq ?_, rfl⟩ (by k_asm) (by first | k_asm | (refine' cb_drop ?cbN ?cbS; (case cbN => assumption); (case cbS => kcj_all))))
  all_goals exact len_k (by omega)
end Mine
end

section -- LW
open PySem PySem.W PySem.Calls PyProof.Rows PySem.Spec PySem.Flt
namespace Mine

/-- between two turns of the while: the day that is sought is `left` days on -/
structure WInv (k T y m d l r : Int) : Prop where
  k0 : 0 ≤ k
  k5 : k ≤ 5
  yr : Yr k y
  m1 : 1 ≤ m
  m2 : m ≤ Mx k
  d1 : 1 ≤ d
  re : r = Len k y m - d
  r0 : 0 ≤ r
  l0 : 0 ≤ l
  day : Off k y m + d + l = T

theorem inv_start {k N y m d l r : Int} (hk0 : 0 ≤ k) (hk5 : k ≤ 5) (h : Dat k N y m d) (hl : 0 ≤ l) (hr : r = Len k y m - d) : WInv k (Off k y m + d + l) y m d l r :=
  ⟨hk0, hk5, h.yr, h.m1, h.m2, h.d1, hr, by have := h.d2; omega, hl, rfl⟩
theorem inv_next {k T y m d l r l' r' : Int} (I : WInv k T y m d l r) (h : r < l) (hm : m + 1 ≤ Mx k) (hl : l' = l - (r + 1)) (hr : r' = Len k y (m + 1) - 1) : WInv k T y (m + 1) 1 l' r' := by
  have e := off_m (y := y) I.k0 I.k5 I.m1 (show m < Mx k by omega)
  have p := len_pos (y := y) (m := m + 1) I.k0 I.k5
  have := I.day
  have := I.re
  have := I.m1
  exact ⟨I.k0, I.k5, I.yr, by omega, hm, by omega, hr, by omega, by omega, by omega⟩
theorem inv_wrap {k T y m d l r l' r' : Int} (I : WInv k T y m d l r) (h : r < l) (hm : ¬ m + 1 ≤ Mx k) (hl : l' = l - (r + 1)) (hr : r' = Len k (y + 1) 1 - 1) : WInv k T (y + 1) 1 1 l' r' := by
  have e := off_y (y := y) I.k0 I.k5 I.yr
  have p := len_pos (y := y + 1) (m := 1) I.k0 I.k5
  have hx : m = Mx k := by have := I.m2; omega
  have := I.day
  have := I.re
  have := mx_pos k
  subst hx
  exact ⟨I.k0, I.k5, fun h => by have := I.yr h; omega, by omega, by omega, by omega, hr, by omega, by omega, by omega⟩
theorem inv_end {k T y m d l r : Int} (I : WInv k T y m d l r) (h : ¬ r < l) : Dat k T y m (d + l) :=
  ⟨I.yr, I.m1, I.m2, by have := I.d1; have := I.l0; omega, by have := I.re; omega, by have := I.day; omega⟩

/-- the date of a day whose date is known -/
theorem c_date_at {k N Y M d : Int} {x : UInt64} {u u2 : Tok} (fx : Fx x (4 * N + 2)) (hN1 : 2117599 ≤ N) (hN2 : N ≤ 30000000) (hk0 : 0 ≤ k) (hk5 : k ≤ 5) (h : Dat k N Y M d) :
    Claim 538 24 256 [.int k u, .float x u2] (fun news v news' => ∃ a t1 t2 t3, v = .ref a ∧ news' = (a, { cls := .type "tuple", data := .seq #[.int Y t1, .int M t2, .int d t3] }) :: news) :=
  (c_date k N x u u2 fx hN1 hN2 hk0 hk5).mono fun news v news' ⟨a, y, m, d', t1, t2, t3, e1, e2, h2⟩ => by
    obtain ⟨rfl, rfl, rfl⟩ := uniq hk0 hk5 h h2
    exact ⟨a, t1, t2, t3, e1, e2⟩

theorem c_date_2 {k T Y M dd l rr p : Int} {x : UInt64} {u u2 : Tok} (fx : Fx x p) (I : WInv k T Y M dd l rr) (hx : ¬ rr < l) (hp : p = 4 * T + 2) (hT1 : 2117599 ≤ T) (hT2 : T ≤ 30000000) :
    Claim 538 24 256 [.int k u, .float x u2] (fun news v news' => ∃ a t1 t2 t3, v = .ref a ∧ news' = (a, { cls := .type "tuple", data := .seq #[.int Y t1, .int M t2, .int (dd + l) t3] }) :: news) :=
  c_date_at (hp ▸ fx) hT1 hT2 I.k0 I.k5 (inv_end I hx)

theorem dat_m13 {k N y m d : Int} (h : Dat k N y m d) : m ≤ 13 := by
  have := h.m2; unfold Mx at this; split at this <;> omega
theorem dat_m12 {k N y m d : Int} (h : Dat k N y m d) : k < 3 → m ≤ 12 := by
  have := h.m2; unfold Mx at this; split at this <;> omega
theorem c_len_next {k T y m d l r : Int} {u u2 u3 : Tok} (I : WInv k T y m d l r) (h13 : m + 1 ≤ 13) (h12 : k < 3 → m + 1 ≤ 12) : Claim 545 24 256 [.int k u, .int y u2, .int (m + 1) u3] (GivesI (Len k y (m + 1))) :=
  c_len k y (m + 1) u u2 u3 I.k0 I.k5 (by have := I.m1; omega) h13 h12

theorem mx_lo {k : Int} (h : k < 3) : Mx k = 12 := if_pos h
theorem mx_hi {k : Int} (h : ¬ k < 3) : Mx k = 13 := if_neg h

theorem meas {k T y m d l r : Int} (I : WInv k T y m d l r) (h : r < l) : (l - (r + 1)).toNat < l.toNat := by
  have := I.r0; omega

/-- a statement's end: the name number holds a day between 1085 and ten million days on -/
structure CutF (x : Str) (h₀ : Heap) (L : Addr) (m : Str → Option Value) (news : List (Addr × Obj)) (s : Shared) (f : Flow) (s₃ : Shared) : Prop where
  nx : f = .next
  ex : ∃ z N t h' tk, Fx z (4 * N + 2) ∧ 2117599 ≤ N ∧ N ≤ 12117598 ∧ Fr h₀ L h' (fun y => if y = x then some (.float z t) else m y) ∧ News h₀ L h' news ∧ s₃ = { s with heap := h', toks := tk }
section
variable {M : Model} {A : Around} {E : Value → Shared → Prop} {s : Shared} {env : Env} {h₀ : Heap} {L : Addr} {m : Str → Option Value} {news : List (Addr × Obj)}
theorem cut_num {st : Stmt} {Q : Flow → Shared → Prop} (hF0 : Fr h₀ L s.heap m) (hN00 : News h₀ L s.heap news)
    (h1 : wpAny M A (exec st env) (CutF (Str.ofString "number") h₀ L m news s) E s)
    (h2 : ∀ z N t h' tk, Fx z (4 * N + 2) → 2117599 ≤ N → N ≤ 12117598 → Fr h₀ L h' (fun y => if y = Str.ofString "number" then some (.float z t) else m y) → News h₀ L h' news → Q .next { s with heap := h', toks := tk }) :
    wpAny M A (exec st env) Q E s :=
  wpAny_mono h1 (fun f s₃ c => by
    obtain ⟨rfl, z, N, t, h', tk, f, n1, n2, F, N', rfl⟩ := c
    exact h2 z N t h' tk f n1 n2 F N') fun _ _ e => e
theorem CutF.set {x : Str} {z : UInt64} {N r : Int} {t : Tok} {h' : Heap} {tk : Nat} (F : Fr h₀ L h' (fun y => if y = x then some (.float z t) else m y)) (N' : News h₀ L h' news) (f : Fx z r) (e : r = 4 * N + 2) (n1 : 2117599 ≤ N) (n2 : N ≤ 12117598) : CutF x h₀ L m news s .next { s with heap := h', toks := tk } :=
  ⟨rfl, z, N, t, h', tk, e ▸ f, n1, n2, F, N', rfl⟩
structure RDays (v : Int) : Prop where
  lo : 0 ≤ v
  hi : v < 450
theorem cut_days {st : Stmt} {Q : Flow → Shared → Prop} (F : Fr h₀ L s.heap m) (N' : News h₀ L s.heap news)
    (h1 : wpAny M A (exec st env) (CutE (Str.ofString "days") RDays h₀ L m news s) E s)
    (h2 : ∀ v t h' tk, RDays v → Fr h₀ L h' (fun y => if y = Str.ofString "days" then some (.int v t) else m y) → News h₀ L h' news → Q .next { s with heap := h', toks := tk }) :
    wpAny M A (exec st env) Q E s := cut_stmt F N' h1 h2
theorem CutF.of {x : Str} {z : UInt64} {v r : Int} {t : Tok} {h' : Heap} {tk : Nat} (F : Fr h₀ L h' (fun y => if y = x then some (.float z t) else m y)) (N' : News h₀ L h' news) (f : Fx z r) (e : r = 8470398 + 4 * v) (n1 : 0 ≤ v) (n2 : v < 10000000) : CutF x h₀ L m news s .next { s with heap := h', toks := tk } :=
  CutF.set (N := 2117599 + v) F N' f (by omega) (by omega) (by omega)
end
section
variable {prog : Program} {w : World} {A : Around} {E : Value → Shared → Prop} {s : Shared} {p n : Int} {t u : Tok} {Q : Value → Shared → Prop}
theorem s_mod_ii (hn : 0 < n) (k : ∀ c, 0 ≤ c → c < n → ∀ t, Q (.int c t) { s with toks := s.toks + 1 }) : wpAny (model prog w) A (binaryOp .Mod (.int p t) (.int n u)) Q E s :=
  mod_int' (by omega) (k _ (Int.fmod_nonneg_of_pos _ hn) (Int.fmod_lt_of_pos _ hn) _)
end
end Mine
end

section -- C21
open PySem PySem.W PySem.Calls PyProof.Rows PySem.Spec PySem.Flt
namespace Mine
local macro_rules | `(tactic| walk_at "none 0") => `(tactic| skip)
local macro_rules | `(tactic| walk_at "none 1") => `(tactic| skip)
local macro_rules | `(tactic| walk_at "none 2") => `(tactic| skip)
local macro_rules | `(tactic| walk_at "none 3") => `(tactic| skip)
local macro_rules | `(tactic| walk_at "none 4") => `(tactic| skip)
local macro_rules | `(tactic| walk_at "none 5") => `(tactic| skip)
local macro_rules | `(tactic| walk_at "none 6") => `(tactic| skip)
local macro_rules | `(tactic| walk_at "none 7") => `(tactic| skip)
local macro_rules | `(tactic| walk_at "none 8") => `(tactic| skip)
local macro_rules | `(tactic| walk_at "none 9") => `(tactic| skip)
local macro_rules | `(tactic| walk_at "none 10") => `(tactic| skip)
local macro_rules | `(tactic| walk_at "none 11") => `(tactic| skip)
local macro_rules | `(tactic| ktr_rel) => `(tactic| first | with_reducible assumption | exact fx_half | exact fx_greg | exact fx_arm | exact fx_sark | exact fx_copt | exact fx_isl | exact fx_law | exact fx_295 | exact fx_365)
local macro_rules | `(tactic| walk_at "binaryOp Add float float") => `(tactic| (refine s_add_ff (by ktr_rel) (by ktr_rel) (by omega) (by omega) ?_; intro z r e f t; (try dsimp only)))
local macro_rules | `(tactic| walk_at "inplaceOp Add float float") => `(tactic| (refine s_iadd_ff (by ktr_rel) (by ktr_rel) (by omega) (by omega) ?_; intro z r e f t; (try dsimp only)))
local macro_rules | `(tactic| walk_at "binaryOp Sub float float") => `(tactic| (refine s_sub_ff (by ktr_rel) (by ktr_rel) (by omega) (by omega) ?_; intro z r e f t; (try dsimp only)))
local macro_rules | `(tactic| walk_at "binaryOp Add float int") => `(tactic| first
  | (refine s_add_fi rfl (by ktr_rel) (by omega) (by omega) (by omega) (by omega) ?_; intro z r e f t; (try dsimp only))
  | (refine s_add_fi_nr rfl (by with_reducible assumption) (by omega) (by omega) (by omega) (by omega) (by omega) ?_; intro z r e f t; (try dsimp only)))
local macro_rules | `(tactic| walk_at "binaryOp Add int float") => `(tactic| (refine s_add_if rfl (by ktr_rel) (by omega) (by omega) (by omega) (by omega) ?_; intro z r e f t; (try dsimp only)))
local macro_rules | `(tactic| walk_at "binaryOp Sub float int") => `(tactic| (refine s_sub_fi rfl (by ktr_rel) (by omega) (by omega) (by omega) (by omega) ?_; intro z r e f t; (try dsimp only)))
local macro_rules | `(tactic| walk_at "binaryOp Sub int float") => `(tactic| (refine s_sub_if rfl (by ktr_rel) (by omega) (by omega) (by omega) (by omega) ?_; intro z r e f t; (try dsimp only)))
local macro_rules | `(tactic| walk_at "binaryOp Mult float int") => `(tactic| (refine s_mul_fi rfl (by ktr_rel) (by omega) (by omega) (by omega) (by omega) ?_; intro z r e f t; (try dsimp only)))
local macro_rules | `(tactic| walk_at "binaryOp Mult int float") => `(tactic| (refine s_mul_if rfl (by ktr_rel) (by omega) (by omega) (by omega) (by omega) ?_; intro z r e f t; (try dsimp only)))
local macro_rules | `(tactic| walk_at "binaryOp Div float float") => `(tactic| (refine s_div_ff rfl (by ktr_rel) (by ktr_rel) (by omega) (by omega) (by omega) ?_; intro z f t; (try dsimp only)))
local macro_rules | `(tactic| walk_at "binaryOp Div float int") => `(tactic| (refine s_div_fi rfl (by ktr_rel) (by omega) (by omega) (by omega) (by omega) ?_; intro z f t; (try dsimp only)))
local macro_rules | `(tactic| walk_at "binaryOp Div int int") => `(tactic| (refine s_div_ii rfl (by omega) (by omega) (by omega) ?_; intro z f t; (try dsimp only)))
local macro_rules | `(tactic| walk_at "binaryOp Mod float int") => `(tactic| (refine s_mod_fi rfl (by ktr_rel) (by omega) (by omega) (by omega) (by omega) ?_; intro z r e f t; (try dsimp only)))
local macro_rules | `(tactic| walk_at "call builtin:math.floor") => `(tactic| first
  | ((with_reducible show wpAny _ _ (call _ [Value.float _ _]) _ _ _); refine s_floor_fx rfl (by ktr_rel) ?_; intro c e t; (try dsimp only))
  | ((with_reducible show wpAny _ _ (call _ [Value.float _ _]) _ _ _); refine s_floor_nr rfl (by with_reducible assumption) (by omega) (by omega) (by omega) (by omega) ?_; intro c e t; (try dsimp only)))
local macro_rules | `(tactic| walk_at "call builtin:math.ceil") => `(tactic| first
  | ((with_reducible show wpAny _ _ (call _ [Value.float _ _]) _ _ _); refine s_ceil_fx rfl (by ktr_rel) ?_; intro c e t; (try dsimp only))
  | ((with_reducible show wpAny _ _ (call _ [Value.float _ _]) _ _ _); refine s_ceil_nr rfl (by with_reducible assumption) (by omega) (by omega) (by omega) (by omega) ?_; intro c e t; (try dsimp only)))
local macro_rules | `(tactic| walk_at "call builtin:math.trunc") => `(tactic| first
  | ((with_reducible show wpAny _ _ (call _ [Value.float _ _]) _ _ _); refine s_trunc_fx rfl (by ktr_rel) (by omega) ?_; intro c e t; (try dsimp only))
  | ((with_reducible show wpAny _ _ (call _ [Value.float _ _]) _ _ _); refine s_trunc_nr rfl (by with_reducible assumption) (by omega) (by omega) (by omega) (by omega) (by omega) ?_; intro c e t; (try dsimp only)))
local macro_rules | `(tactic| walk_at "call type:int") => `(tactic| ((with_reducible show wpAny _ _ (call _ [Value.float _ _]) _ _ _); refine s_int_fx rfl (by ktr_rel) (by omega) ?_; intro c e t; (try dsimp only)))
local macro_rules | `(tactic| walk_at "compareOp Lt float int") => `(tactic| (refine s_lt_fi (by ktr_rel) ?_; intro b e; (try dsimp only)))
local macro_rules | `(tactic| walk_at "compareOp Eq float int") => `(tactic| (refine s_eq_fi (by ktr_rel) ?_; intro b e; (try dsimp only)))
local macro_rules | `(tactic| walk_at "eval Call") => `(tactic| k_dflt (refine Call_ ?_))
local macro_rules | `(tactic| walk_at "compareOp In int ref") => `(tactic| (k_here; (with_unfolding_all refine' in_tup_K ?k1 ?k2 ?k3 ?k4 ?_); (case k1 => k_asm); (case k2 => k_asm); (case k3 => k_is); (case k4 => repeat constructor); intro b e; (try dsimp only)))
local macro_rules | `(tactic| walk_at "exec Assign") => `(tactic| first
  | ((with_reducible show wpAny _ _ (exec (Stmt.Assign [Expr.Name (Str.ofString "number") _] _ _) _) _ _ _); (fail_if_success (with_reducible show wpAny _ _ _ (CutF _ _ _ _ _ _) _ _)); (with_unfolding_all refine' cut_num ?n1 ?n2 ?_ ?_); (case n1 => k_asm); (case n2 => k_asm); rotate_left; (intro z9 N9 t9 h9 tk9 f9 l9 u9 F9 N8; (try dsimp only); (try k_fold)))
  | ((with_reducible show wpAny _ _ (exec (Stmt.Assign [Expr.Name (Str.ofString "days") _] _ _) _) _ _ _); (fail_if_success (with_reducible show wpAny _ _ _ (CutE _ _ _ _ _ _ _) _ _)); (with_unfolding_all refine' cut_days ?q1 ?q2 ?_ ?_); (case q1 => k_asm); (case q2 => k_asm); rotate_left; (intro v9 t9 h9 tk9 g9 F9 N8; (have g8 := g9); obtain ⟨lo, hi⟩ := g8; (try dsimp only); (try k_fold))))
local macro_rules | `(tactic| walk_at "call ref") => `(tactic| k_dflt (first
  | ((with_reducible show wpAny _ _ (call (Value.ref 538) _) _ _ _); (with_unfolding_all refine' Claim.use (c_date_2 (by with_reducible assumption) (by with_reducible assumption) (by assumption) (by omega) (by omega) (by omega)) ?k1 ?k2 ?k3 ?k4 ?k5 ?k6 ?k7 ?k8 ?_); (case k1 => k_asm); (case k2 => k_asm); (case k3 => k_asm); (case k4 => k_asm); (case k5 => k_asm); (case k6 => first | k_dflt (exact rfl) | assumption); (case k7 => k_dflt ktr_room); (case k8 => k_dflt ktr_units); (intro v9 n9 h9 tk9 p9 F9 N9; obtain ⟨a8, t1, t2, t3, e9, e8⟩ := p9; subst e9; subst e8); (try dsimp only); (try k_fold))
  | ((with_reducible show wpAny _ _ (call (Value.ref 538) _) _ _ _); (with_unfolding_all refine' Claim.use (c_date _ _ _ _ _ (by with_reducible assumption) (by assumption) (by omega) (by omega) (by omega)) ?k1 ?k2 ?k3 ?k4 ?k5 ?k6 ?k7 ?k8 ?_); (case k1 => k_asm); (case k2 => k_asm); (case k3 => k_asm); (case k4 => k_asm); (case k5 => k_asm); (case k6 => first | k_dflt (exact rfl) | assumption); (case k7 => k_dflt ktr_room); (case k8 => k_dflt ktr_units); (intro v9 n9 h9 tk9 p9 F9 N9; obtain ⟨a8, y8, m8, d8, t1, t2, t3, e9, e8, dat8⟩ := p9; subst e9; subst e8; (have m1 := dat8.m1); (have m2 := dat_m13 dat8); (have m3 := dat_m12 dat8); (have day8 := dat8.day)); (try dsimp only); (try k_fold))
  | ((with_reducible show wpAny _ _ (call (Value.ref 545) _) _ _ _); (with_unfolding_all refine' Claim.use (c_len_next (by with_reducible assumption) (by omega) (by omega)) ?k1 ?k2 ?k3 ?k4 ?k5 ?k6 ?k7 ?k8 ?_); (case k1 => k_asm); (case k2 => k_asm); (case k3 => k_asm); (case k4 => k_asm); (case k5 => k_asm); (case k6 => first | k_dflt (exact rfl) | assumption); (case k7 => k_dflt ktr_room); (case k8 => k_dflt ktr_units); (intro v9 n9 h9 tk9 p9 F9 N9; obtain ⟨⟨t9, e9⟩, e8⟩ := p9; subst e9; subst e8); (try dsimp only); (try k_fold))
  | ((with_reducible show wpAny _ _ (call (Value.ref 545) _) _ _ _); (with_unfolding_all refine' Claim.use (c_len _ _ _ _ _ _ (by omega) (by omega) (by omega) (by omega) (by omega)) ?k1 ?k2 ?k3 ?k4 ?k5 ?k6 ?k7 ?k8 ?_); (case k1 => k_asm); (case k2 => k_asm); (case k3 => k_asm); (case k4 => k_asm); (case k5 => k_asm); (case k6 => first | k_dflt (exact rfl) | assumption); (case k7 => k_dflt ktr_room); (case k8 => k_dflt ktr_units); (intro v9 n9 h9 tk9 p9 F9 N9; obtain ⟨⟨t9, e9⟩, e8⟩ := p9; subst e9; subst e8); (try dsimp only); (try k_fold))))
local macro_rules | `(tactic| walk_at "exec For Name Call cons nil") => `(tactic| (k_here; (rename Fr _ _ _ _ => lF'); k_dflt (refine' For_invVF lF' ?f1 ?f2 ?_; (case f1 => exact rfl); (case f2 => exact rfl); k_whole)))
local macro_rules | `(tactic| walk_at "pyIter ref") => `(tactic| ((with_reducible show wpAny _ _ (pyIter (Value.ref _)) (fun it s₂ => LoopAtV _ _ _ _ _ _ _ _ _ it s₂) _ _); k_here; (rename Fr _ _ _ _ => lF'); (rename News _ _ _ _ => lN'); (rename IsRange _ _ _ _ _ _ _ _ => rgX); (with_unfolding_all refine' kow_range (n := 6) [Str.ofString "year", Str.ofString "month", Str.ofString "day", Str.ofString "left", Str.ofString "rest"] ?o1 ?o2 ?o3 ?o4 lF' lN' (fun n' t' u' h' tk' I' oI' hlo' hhi' F' N' l1' => ?_) (fun u' h' tk' F' N' => ?_)); (case o1 => with_unfolding_all exact rfl); (case o2 => exact rgX); (case o3 => k_dflt decide); (case o4 => with_unfolding_all exact rfl); (all_goals ((try k_lt l1'); clear lF' lN'; (try k_fold)))))
local macro_rules | `(tactic| walk_at "binaryOp Mod int int") => `(tactic| (with_reducible refine s_mod_ii (by decide) ?_; intro c l u t; (try dsimp only)))
local macro_rules | `(tactic| walk_at "CutF") => `(tactic| ((rename Fr _ _ _ _ => F8); (rename News _ _ _ _ => N8); exact CutF.of F8 N8 (by with_reducible assumption) (by with_reducible assumption) (by omega) (by omega)))
local macro_rules | `(tactic| walk_at "CutE") => `(tactic| ((rename Fr _ _ _ _ => F8); (rename News _ _ _ _ => N8); exact CutE.set F8 N8 ⟨by omega, by omega⟩))
set_option maxRecDepth 100000 in
set_option maxHeartbeats 8000000 in
theorem law_holds : PySem.Challenge.rw_ak5008_01.Holds := hd (by
  k_with "exec While Compare cons nil" => k_while_given ["kind", "days", "year!", "month!", "day!"] (fun kind days y0 m0 d0 script left month day year rest => WInv kind (Off kind y0 m0 + d0 + days) year month day left rest) (fun kind days y0 m0 d0 script left month day year rest => left.toNat) "left" "month" "day" "year" "rest"
  k_with "measure" => exact meas (by with_reducible assumption) (by assumption)
  k_with "state" => first
    | exact inv_start (by omega) (by omega) (by with_reducible assumption) (by omega) rfl
    | exact inv_next (by with_reducible assumption) (by assumption) (by first | (rw [mx_lo (by assumption)]; omega) | (rw [mx_hi (by assumption)]; omega)) rfl rfl
    | exact inv_wrap (by with_reducible assumption) (by assumption) (by first | (rw [mx_lo (by assumption)]; omega) | (rw [mx_hi (by assumption)]; omega)) rfl rfl
  k_go0
  (all_goals try k_fold)
  k_steps
)
end Mine
end

set_option maxRecDepth 100000 in
set_option maxHeartbeats 8000000 in
theorem PySem.Challenge.cw_ak5008_01_holds : PySem.Challenge.rw_ak5008_01.Holds := by
  exact Mine.law_holds
