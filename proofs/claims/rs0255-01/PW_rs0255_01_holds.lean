import PyProof.Rows.All
import Wide.All
import OpenK.AllK
import Wide.FinOn
import PySem.Challenge.RW_rs0255_01
open PySem PySem.W PyProof.Rows
set_option Elab.async false
set_option maxRecDepth 100000
set_option maxHeartbeats 8000000
namespace Mine
open_top hd for PySem.Challenge.rw_rs0255_01
open PySem.Spec PySem.Calls
set_option maxHeartbeats 4000000

/-! ## the plain datum, and what the law's own walk says of two of them -/
inductive D where
  | int (i : Int)
  | str (s : Str)
  | none
  | row (l : Bool) (xs : List D)

abbrev Res := Bool × Option Int

noncomputable def sgn (gt lt : Bool) : Int := (if gt then 1 else 0) - (if lt then 1 else 0)

noncomputable def rowRes (f : D → D → Res) : List D → List D → Res
  | [], [] => (true, some 0)
  | [], _ :: _ => (false, some (-1))
  | _ :: _, [] => (false, some 1)
  | x :: xs, y :: ys => if (f x y).1 then rowRes f xs ys else (false, (f x y).2)

noncomputable def leafRes : D → D → Res
  | .int i, .int j => (i == j, some (sgn (decide (i > j)) (decide (i < j))))
  | .str s, .str t => (s.cps.toList == t.cps.toList, some (sgn (decide (t.cps.toList < s.cps.toList)) (decide (s.cps.toList < t.cps.toList))))
  | .none, .none => (true, none)
  | _, _ => (false, none)

noncomputable def stand : Nat → D → D → Res
  | n + 1, .row l xs, .row m ys => if l = m then rowRes (stand n) xs ys else (false, none)
  | _, d, e => leafRes d e

noncomputable def ans (op : CmpOp) (r : Res) : Option Bool := match op with
  | .Eq => some r.1
  | .NotEq => some !r.1
  | .Lt => r.2.map (fun x => decide (x < 0))
  | .LtE => r.2.map (fun x => decide (x ≤ 0))
  | .Gt => r.2.map (fun x => decide (x > 0))
  | _ => r.2.map (fun x => decide (x ≥ 0))

def Six (op : CmpOp) : Prop := op = .Eq ∨ op = .NotEq ∨ op = .Lt ∨ op = .LtE ∨ op = .Gt ∨ op = .GtE

noncomputable def rev : CmpOp → CmpOp
  | .Lt => .Gt | .LtE => .GtE | .Gt => .Lt | .GtE => .LtE | o => o

noncomputable def flipR (r : Res) : Res := (r.1, r.2.map (fun x => -x))

theorem ans_flip {op : CmpOp} (h : Six op) (r : Res) : ans (rev op) (flipR r) = ans op r := by
  obtain ⟨b, w⟩ := r
  rcases h with rfl | rfl | rfl | rfl | rfl | rfl <;> cases w <;> simp [ans, rev, flipR] <;> omega

theorem sgn_flip (a b : Bool) : sgn b a = - sgn a b := by cases a <;> cases b <;> rfl

theorem leafRes_flip (d e : D) : leafRes e d = flipR (leafRes d e) := by
  cases d <;> cases e <;> simp [leafRes, flipR]
  · rename_i i j
    refine ⟨?_, ?_⟩
    · exact BEq.comm
    · rw [sgn_flip]
  · rename_i s t
    refine ⟨?_, ?_⟩
    · exact BEq.comm
    · rw [sgn_flip]

theorem rowRes_flip {f : D → D → Res} (hf : ∀ d e, f e d = flipR (f d e)) : ∀ xs ys, rowRes f ys xs = flipR (rowRes f xs ys)
  | [], [] => rfl
  | [], _ :: _ => rfl
  | _ :: _, [] => rfl
  | x :: xs, y :: ys => by
    simp only [rowRes]
    rw [hf x y]
    show (if (f x y).1 = true then _ else _) = _
    split
    · exact rowRes_flip hf xs ys
    · rfl

theorem stand_flip : ∀ n d e, stand n e d = flipR (stand n d e)
  | 0, d, e => by cases d <;> cases e <;> exact leafRes_flip _ _
  | n + 1, d, e => by
    cases d with
    | row l xs =>
      cases e with
      | row m ys =>
        simp only [stand]
        by_cases h : l = m
        · subst h; simp only [if_true]; exact rowRes_flip (stand_flip n) xs ys
        · rw [if_neg h, if_neg (Ne.symm h)]; rfl
      | _ => rfl
    | _ => cases e <;> exact leafRes_flip _ _

theorem rowRes_len {f : D → D → Res} : ∀ {xs ys : List D}, (rowRes f xs ys).1 = true → xs.length = ys.length
  | [], [], _ => rfl
  | [], _ :: _, h => by cases h
  | _ :: _, [], h => by cases h
  | x :: xs, y :: ys, h => by
    simp only [rowRes] at h
    split at h
    · simp [rowRes_len h]
    · cases h
set_option maxHeartbeats 4000000
section
variable {prog : Program} {wd : World}
/-! ## slots that decline: a comparison's own builtin hands the question on -/
def NoInt (prog : Program) (wd : World) (w : Value) (s : Shared) : Prop := ∀ (A : Around) (Q : Option Int → Shared → Prop) (E : Value → Shared → Prop), Q none s → wpAny (model prog wd) A (asInt? w) Q E s
def NoStr (prog : Program) (wd : World) (w : Value) (s : Shared) : Prop := ∀ (A : Around) (Q : Option Str → Shared → Prop) (E : Value → Shared → Prop), Q none s → wpAny (model prog wd) A (asStr? w) Q E s
def NoInst (prog : Program) (wd : World) (T : String) (w : Value) (s : Shared) : Prop := ∃ tw, (∀ (A : Around) (Q : Value → Shared → Prop) (E : Value → Shared → Prop), Q tw s → wpAny (model prog wd) A (typeOf w) Q E s) ∧
  ∀ (A : Around) (Q : Bool → Shared → Prop) (E : Value → Shared → Prop), Q false s → wpAny (model prog wd) A (isSubtype tw (.type T)) Q E s

theorem m_int_eq {i : Int} {t : Tok} {w : Value} : MeetsIn prog wd (Builtin.«int.__eq__» ⟨[.int i t, w], []⟩) (fun _ R s => NoInt prog wd w s ∧ R (.ok (.ret .notImplemented)) s) := by
  intro A R s ⟨hn, h⟩
  wp_walk
  refine hn _ _ _ ?_
  wp_walk
  exact h
theorem m_str_eq {i : Str} {t : Tok} {w : Value} : MeetsIn prog wd (Builtin.«str.__eq__» ⟨[.str i t, w], []⟩) (fun _ R s => NoStr prog wd w s ∧ R (.ok (.ret .notImplemented)) s) := by
  intro A R s ⟨hn, h⟩
  wp_walk
  refine hn _ _ _ ?_
  wp_walk
  exact h
theorem m_list_eq {l : Addr} {w : Value} : MeetsIn prog wd (Builtin.«list.__eq__» ⟨[.ref l, w], []⟩) (fun _ R s => NoInst prog wd "list" w s ∧ R (.ok (.ret .notImplemented)) s) := by
  intro A R s ⟨⟨tw, h1, h2⟩, h⟩
  wp_walk
  refine h1 _ _ _ ?_
  refine h2 _ _ _ ?_
  wp_walk
  exact h
theorem m_tuple_eq {l : Addr} {w : Value} : MeetsIn prog wd (Builtin.«tuple.__eq__» ⟨[.ref l, w], []⟩) (fun _ R s => NoInst prog wd "tuple" w s ∧ R (.ok (.ret .notImplemented)) s) := by
  intro A R s ⟨⟨tw, h1, h2⟩, h⟩
  wp_walk
  refine h1 _ _ _ ?_
  refine h2 _ _ _ ?_
  wp_walk
  exact h
theorem m_none_eq {w : Value} : MeetsIn prog wd (Builtin.«NoneType.__eq__» ⟨[.none, w], []⟩) (fun _ R s => (w == .none) = false ∧ R (.ok (.ret .notImplemented)) s) := by
  intro A R s ⟨hw, h⟩
  wp_walk
  simp only [List.headD_cons, hw]
  exact h
theorem m_int_ne {i : Int} {t : Tok} {w : Value} : MeetsIn prog wd (Builtin.«int.__ne__» ⟨[.int i t, w], []⟩) (fun _ R s => NoInt prog wd w s ∧ R (.ok (.ret .notImplemented)) s) := by
  intro A R s ⟨hn, h⟩
  wp_walk
  refine hn _ _ _ ?_
  wp_walk
  exact h
theorem m_str_ne {i : Str} {t : Tok} {w : Value} : MeetsIn prog wd (Builtin.«str.__ne__» ⟨[.str i t, w], []⟩) (fun _ R s => NoStr prog wd w s ∧ R (.ok (.ret .notImplemented)) s) := by
  intro A R s ⟨hn, h⟩
  wp_walk
  refine hn _ _ _ ?_
  wp_walk
  exact h
theorem m_list_ne {l : Addr} {w : Value} : MeetsIn prog wd (Builtin.«list.__ne__» ⟨[.ref l, w], []⟩) (fun _ R s => NoInst prog wd "list" w s ∧ R (.ok (.ret .notImplemented)) s) := by
  intro A R s ⟨⟨tw, h1, h2⟩, h⟩
  wp_walk
  refine h1 _ _ _ ?_
  refine h2 _ _ _ ?_
  wp_walk
  exact h
theorem m_tuple_ne {l : Addr} {w : Value} : MeetsIn prog wd (Builtin.«tuple.__ne__» ⟨[.ref l, w], []⟩) (fun _ R s => NoInst prog wd "tuple" w s ∧ R (.ok (.ret .notImplemented)) s) := by
  intro A R s ⟨⟨tw, h1, h2⟩, h⟩
  wp_walk
  refine h1 _ _ _ ?_
  refine h2 _ _ _ ?_
  wp_walk
  exact h
theorem m_none_ne {w : Value} : MeetsIn prog wd (Builtin.«NoneType.__ne__» ⟨[.none, w], []⟩) (fun _ R s => (w == .none) = false ∧ R (.ok (.ret .notImplemented)) s) := by
  intro A R s ⟨hw, h⟩
  wp_walk
  simp only [List.headD_cons, hw]
  exact h
theorem m_int_lt {i : Int} {t : Tok} {w : Value} : MeetsIn prog wd (Builtin.«int.__lt__» ⟨[.int i t, w], []⟩) (fun _ R s => NoInt prog wd w s ∧ R (.ok (.ret .notImplemented)) s) := by
  intro A R s ⟨hn, h⟩
  wp_walk
  refine hn _ _ _ ?_
  wp_walk
  exact h
theorem m_str_lt {i : Str} {t : Tok} {w : Value} : MeetsIn prog wd (Builtin.«str.__lt__» ⟨[.str i t, w], []⟩) (fun _ R s => NoStr prog wd w s ∧ R (.ok (.ret .notImplemented)) s) := by
  intro A R s ⟨hn, h⟩
  wp_walk
  refine hn _ _ _ ?_
  wp_walk
  exact h
theorem m_list_lt {l : Addr} {w : Value} : MeetsIn prog wd (Builtin.«list.__lt__» ⟨[.ref l, w], []⟩) (fun _ R s => NoInst prog wd "list" w s ∧ R (.ok (.ret .notImplemented)) s) := by
  intro A R s ⟨⟨tw, h1, h2⟩, h⟩
  wp_walk
  refine h1 _ _ _ ?_
  refine h2 _ _ _ ?_
  wp_walk
  exact h
theorem m_tuple_lt {l : Addr} {w : Value} : MeetsIn prog wd (Builtin.«tuple.__lt__» ⟨[.ref l, w], []⟩) (fun _ R s => NoInst prog wd "tuple" w s ∧ R (.ok (.ret .notImplemented)) s) := by
  intro A R s ⟨⟨tw, h1, h2⟩, h⟩
  wp_walk
  refine h1 _ _ _ ?_
  refine h2 _ _ _ ?_
  wp_walk
  exact h
theorem m_none_lt {w : Value} : MeetsIn prog wd (Builtin.«NoneType.__lt__» ⟨[.none, w], []⟩) (fun _ R s => R (.ok (.ret .notImplemented)) s) := by
  intro A R s h
  wp_walk
  exact h
theorem m_int_le {i : Int} {t : Tok} {w : Value} : MeetsIn prog wd (Builtin.«int.__le__» ⟨[.int i t, w], []⟩) (fun _ R s => NoInt prog wd w s ∧ R (.ok (.ret .notImplemented)) s) := by
  intro A R s ⟨hn, h⟩
  wp_walk
  refine hn _ _ _ ?_
  wp_walk
  exact h
theorem m_str_le {i : Str} {t : Tok} {w : Value} : MeetsIn prog wd (Builtin.«str.__le__» ⟨[.str i t, w], []⟩) (fun _ R s => NoStr prog wd w s ∧ R (.ok (.ret .notImplemented)) s) := by
  intro A R s ⟨hn, h⟩
  wp_walk
  refine hn _ _ _ ?_
  wp_walk
  exact h
theorem m_list_le {l : Addr} {w : Value} : MeetsIn prog wd (Builtin.«list.__le__» ⟨[.ref l, w], []⟩) (fun _ R s => NoInst prog wd "list" w s ∧ R (.ok (.ret .notImplemented)) s) := by
  intro A R s ⟨⟨tw, h1, h2⟩, h⟩
  wp_walk
  refine h1 _ _ _ ?_
  refine h2 _ _ _ ?_
  wp_walk
  exact h
theorem m_tuple_le {l : Addr} {w : Value} : MeetsIn prog wd (Builtin.«tuple.__le__» ⟨[.ref l, w], []⟩) (fun _ R s => NoInst prog wd "tuple" w s ∧ R (.ok (.ret .notImplemented)) s) := by
  intro A R s ⟨⟨tw, h1, h2⟩, h⟩
  wp_walk
  refine h1 _ _ _ ?_
  refine h2 _ _ _ ?_
  wp_walk
  exact h
theorem m_none_le {w : Value} : MeetsIn prog wd (Builtin.«NoneType.__le__» ⟨[.none, w], []⟩) (fun _ R s => R (.ok (.ret .notImplemented)) s) := by
  intro A R s h
  wp_walk
  exact h
theorem m_int_gt {i : Int} {t : Tok} {w : Value} : MeetsIn prog wd (Builtin.«int.__gt__» ⟨[.int i t, w], []⟩) (fun _ R s => NoInt prog wd w s ∧ R (.ok (.ret .notImplemented)) s) := by
  intro A R s ⟨hn, h⟩
  wp_walk
  refine hn _ _ _ ?_
  wp_walk
  exact h
theorem m_str_gt {i : Str} {t : Tok} {w : Value} : MeetsIn prog wd (Builtin.«str.__gt__» ⟨[.str i t, w], []⟩) (fun _ R s => NoStr prog wd w s ∧ R (.ok (.ret .notImplemented)) s) := by
  intro A R s ⟨hn, h⟩
  wp_walk
  refine hn _ _ _ ?_
  wp_walk
  exact h
theorem m_list_gt {l : Addr} {w : Value} : MeetsIn prog wd (Builtin.«list.__gt__» ⟨[.ref l, w], []⟩) (fun _ R s => NoInst prog wd "list" w s ∧ R (.ok (.ret .notImplemented)) s) := by
  intro A R s ⟨⟨tw, h1, h2⟩, h⟩
  wp_walk
  refine h1 _ _ _ ?_
  refine h2 _ _ _ ?_
  wp_walk
  exact h
theorem m_tuple_gt {l : Addr} {w : Value} : MeetsIn prog wd (Builtin.«tuple.__gt__» ⟨[.ref l, w], []⟩) (fun _ R s => NoInst prog wd "tuple" w s ∧ R (.ok (.ret .notImplemented)) s) := by
  intro A R s ⟨⟨tw, h1, h2⟩, h⟩
  wp_walk
  refine h1 _ _ _ ?_
  refine h2 _ _ _ ?_
  wp_walk
  exact h
theorem m_none_gt {w : Value} : MeetsIn prog wd (Builtin.«NoneType.__gt__» ⟨[.none, w], []⟩) (fun _ R s => R (.ok (.ret .notImplemented)) s) := by
  intro A R s h
  wp_walk
  exact h
theorem m_int_ge {i : Int} {t : Tok} {w : Value} : MeetsIn prog wd (Builtin.«int.__ge__» ⟨[.int i t, w], []⟩) (fun _ R s => NoInt prog wd w s ∧ R (.ok (.ret .notImplemented)) s) := by
  intro A R s ⟨hn, h⟩
  wp_walk
  refine hn _ _ _ ?_
  wp_walk
  exact h
theorem m_str_ge {i : Str} {t : Tok} {w : Value} : MeetsIn prog wd (Builtin.«str.__ge__» ⟨[.str i t, w], []⟩) (fun _ R s => NoStr prog wd w s ∧ R (.ok (.ret .notImplemented)) s) := by
  intro A R s ⟨hn, h⟩
  wp_walk
  refine hn _ _ _ ?_
  wp_walk
  exact h
theorem m_list_ge {l : Addr} {w : Value} : MeetsIn prog wd (Builtin.«list.__ge__» ⟨[.ref l, w], []⟩) (fun _ R s => NoInst prog wd "list" w s ∧ R (.ok (.ret .notImplemented)) s) := by
  intro A R s ⟨⟨tw, h1, h2⟩, h⟩
  wp_walk
  refine h1 _ _ _ ?_
  refine h2 _ _ _ ?_
  wp_walk
  exact h
theorem m_tuple_ge {l : Addr} {w : Value} : MeetsIn prog wd (Builtin.«tuple.__ge__» ⟨[.ref l, w], []⟩) (fun _ R s => NoInst prog wd "tuple" w s ∧ R (.ok (.ret .notImplemented)) s) := by
  intro A R s ⟨⟨tw, h1, h2⟩, h⟩
  wp_walk
  refine h1 _ _ _ ?_
  refine h2 _ _ _ ?_
  wp_walk
  exact h
theorem m_none_ge {w : Value} : MeetsIn prog wd (Builtin.«NoneType.__ge__» ⟨[.none, w], []⟩) (fun _ R s => R (.ok (.ret .notImplemented)) s) := by
  intro A R s h
  wp_walk
  exact h
end
section
variable {prog : Program} {wd : World} {A : Around} {s : Shared} {E : Value → Shared → Prop} {op : CmpOp} {w : Value}
theorem dec_int {i : Int} {t : Tok} {Q : Option Value → Shared → Prop} (h6 : Six op) (hn : NoInt prog wd w s) (h : Q none s) : wpAny (model prog wd) A (tryCompare (.int i t) (cmpInfo op).2.1 w) Q E s := by
  rcases h6 with rfl | rfl | rfl | rfl | rfl | rfl
  · exact wpAny_tryCompare_declines (typeIs_int s i t) F.slot_int_eq (call_meetsIn F.slot_int_eq (typeIs_int s i t) F.entry_int_eq (F.args_int_eq_2 _ _) m_int_eq ⟨hn, rfl, h⟩)
  · exact wpAny_tryCompare_declines (typeIs_int s i t) F.slot_int_ne (call_meetsIn F.slot_int_ne (typeIs_int s i t) F.entry_int_ne (F.args_int_ne_2 _ _) m_int_ne ⟨hn, rfl, h⟩)
  · exact wpAny_tryCompare_declines (typeIs_int s i t) F.slot_int_lt (call_meetsIn F.slot_int_lt (typeIs_int s i t) F.entry_int_lt (F.args_int_lt_2 _ _) m_int_lt ⟨hn, rfl, h⟩)
  · exact wpAny_tryCompare_declines (typeIs_int s i t) F.slot_int_le (call_meetsIn F.slot_int_le (typeIs_int s i t) F.entry_int_le (F.args_int_le_2 _ _) m_int_le ⟨hn, rfl, h⟩)
  · exact wpAny_tryCompare_declines (typeIs_int s i t) F.slot_int_gt (call_meetsIn F.slot_int_gt (typeIs_int s i t) F.entry_int_gt (F.args_int_gt_2 _ _) m_int_gt ⟨hn, rfl, h⟩)
  · exact wpAny_tryCompare_declines (typeIs_int s i t) F.slot_int_ge (call_meetsIn F.slot_int_ge (typeIs_int s i t) F.entry_int_ge (F.args_int_ge_2 _ _) m_int_ge ⟨hn, rfl, h⟩)
theorem ref_int {i : Int} {t : Tok} {Q : Option Value → Shared → Prop} (h6 : Six op) (hn : NoInt prog wd w s) (h : Q none s) : wpAny (model prog wd) A (tryCompare (.int i t) (cmpInfo op).2.2 w) Q E s := by
  rcases h6 with rfl | rfl | rfl | rfl | rfl | rfl
  · exact wpAny_tryCompare_declines (typeIs_int s i t) F.slot_int_eq_refl (call_meetsIn F.slot_int_eq_refl (typeIs_int s i t) F.entry_int_eq (F.args_int_eq_2 _ _) m_int_eq ⟨hn, rfl, h⟩)
  · exact wpAny_tryCompare_declines (typeIs_int s i t) F.slot_int_ne_refl (call_meetsIn F.slot_int_ne_refl (typeIs_int s i t) F.entry_int_ne (F.args_int_ne_2 _ _) m_int_ne ⟨hn, rfl, h⟩)
  · exact wpAny_tryCompare_declines (typeIs_int s i t) F.slot_int_gt_refl (call_meetsIn F.slot_int_gt_refl (typeIs_int s i t) F.entry_int_gt (F.args_int_gt_2 _ _) m_int_gt ⟨hn, rfl, h⟩)
  · exact wpAny_tryCompare_declines (typeIs_int s i t) F.slot_int_ge_refl (call_meetsIn F.slot_int_ge_refl (typeIs_int s i t) F.entry_int_ge (F.args_int_ge_2 _ _) m_int_ge ⟨hn, rfl, h⟩)
  · exact wpAny_tryCompare_declines (typeIs_int s i t) F.slot_int_lt_refl (call_meetsIn F.slot_int_lt_refl (typeIs_int s i t) F.entry_int_lt (F.args_int_lt_2 _ _) m_int_lt ⟨hn, rfl, h⟩)
  · exact wpAny_tryCompare_declines (typeIs_int s i t) F.slot_int_le_refl (call_meetsIn F.slot_int_le_refl (typeIs_int s i t) F.entry_int_le (F.args_int_le_2 _ _) m_int_le ⟨hn, rfl, h⟩)
theorem dec_str {i : Str} {t : Tok} {Q : Option Value → Shared → Prop} (h6 : Six op) (hn : NoStr prog wd w s) (h : Q none s) : wpAny (model prog wd) A (tryCompare (.str i t) (cmpInfo op).2.1 w) Q E s := by
  rcases h6 with rfl | rfl | rfl | rfl | rfl | rfl
  · exact wpAny_tryCompare_declines (typeIs_str s i t) F.slot_str_eq (call_meetsIn F.slot_str_eq (typeIs_str s i t) F.entry_str_eq (F.args_str_eq_2 _ _) m_str_eq ⟨hn, rfl, h⟩)
  · exact wpAny_tryCompare_declines (typeIs_str s i t) F.slot_str_ne (call_meetsIn F.slot_str_ne (typeIs_str s i t) F.entry_str_ne (F.args_str_ne_2 _ _) m_str_ne ⟨hn, rfl, h⟩)
  · exact wpAny_tryCompare_declines (typeIs_str s i t) F.slot_str_lt (call_meetsIn F.slot_str_lt (typeIs_str s i t) F.entry_str_lt (F.args_str_lt_2 _ _) m_str_lt ⟨hn, rfl, h⟩)
  · exact wpAny_tryCompare_declines (typeIs_str s i t) F.slot_str_le (call_meetsIn F.slot_str_le (typeIs_str s i t) F.entry_str_le (F.args_str_le_2 _ _) m_str_le ⟨hn, rfl, h⟩)
  · exact wpAny_tryCompare_declines (typeIs_str s i t) F.slot_str_gt (call_meetsIn F.slot_str_gt (typeIs_str s i t) F.entry_str_gt (F.args_str_gt_2 _ _) m_str_gt ⟨hn, rfl, h⟩)
  · exact wpAny_tryCompare_declines (typeIs_str s i t) F.slot_str_ge (call_meetsIn F.slot_str_ge (typeIs_str s i t) F.entry_str_ge (F.args_str_ge_2 _ _) m_str_ge ⟨hn, rfl, h⟩)
theorem ref_str {i : Str} {t : Tok} {Q : Option Value → Shared → Prop} (h6 : Six op) (hn : NoStr prog wd w s) (h : Q none s) : wpAny (model prog wd) A (tryCompare (.str i t) (cmpInfo op).2.2 w) Q E s := by
  rcases h6 with rfl | rfl | rfl | rfl | rfl | rfl
  · exact wpAny_tryCompare_declines (typeIs_str s i t) F.slot_str_eq_refl (call_meetsIn F.slot_str_eq_refl (typeIs_str s i t) F.entry_str_eq (F.args_str_eq_2 _ _) m_str_eq ⟨hn, rfl, h⟩)
  · exact wpAny_tryCompare_declines (typeIs_str s i t) F.slot_str_ne_refl (call_meetsIn F.slot_str_ne_refl (typeIs_str s i t) F.entry_str_ne (F.args_str_ne_2 _ _) m_str_ne ⟨hn, rfl, h⟩)
  · exact wpAny_tryCompare_declines (typeIs_str s i t) F.slot_str_gt_refl (call_meetsIn F.slot_str_gt_refl (typeIs_str s i t) F.entry_str_gt (F.args_str_gt_2 _ _) m_str_gt ⟨hn, rfl, h⟩)
  · exact wpAny_tryCompare_declines (typeIs_str s i t) F.slot_str_ge_refl (call_meetsIn F.slot_str_ge_refl (typeIs_str s i t) F.entry_str_ge (F.args_str_ge_2 _ _) m_str_ge ⟨hn, rfl, h⟩)
  · exact wpAny_tryCompare_declines (typeIs_str s i t) F.slot_str_lt_refl (call_meetsIn F.slot_str_lt_refl (typeIs_str s i t) F.entry_str_lt (F.args_str_lt_2 _ _) m_str_lt ⟨hn, rfl, h⟩)
  · exact wpAny_tryCompare_declines (typeIs_str s i t) F.slot_str_le_refl (call_meetsIn F.slot_str_le_refl (typeIs_str s i t) F.entry_str_le (F.args_str_le_2 _ _) m_str_le ⟨hn, rfl, h⟩)
theorem dec_NoneType {Q : Option Value → Shared → Prop} (h6 : Six op) (hn : (op = .Eq ∨ op = .NotEq) → (w == .none) = false) (h : Q none s) : wpAny (model prog wd) A (tryCompare .none (cmpInfo op).2.1 w) Q E s := by
  rcases h6 with rfl | rfl | rfl | rfl | rfl | rfl
  · exact wpAny_tryCompare_declines (rfl) F.slot_NoneType_eq (call_meetsIn F.slot_NoneType_eq (rfl) F.entry_NoneType_eq (F.args_NoneType_eq_2 _ _) m_none_eq ⟨hn (by simp), rfl, h⟩)
  · exact wpAny_tryCompare_declines (rfl) F.slot_NoneType_ne (call_meetsIn F.slot_NoneType_ne (rfl) F.entry_NoneType_ne (F.args_NoneType_ne_2 _ _) m_none_ne ⟨hn (by simp), rfl, h⟩)
  · exact wpAny_tryCompare_declines (rfl) F.slot_NoneType_lt (call_meetsIn F.slot_NoneType_lt (rfl) F.entry_NoneType_lt (F.args_NoneType_lt_2 _ _) m_none_lt ⟨rfl, h⟩)
  · exact wpAny_tryCompare_declines (rfl) F.slot_NoneType_le (call_meetsIn F.slot_NoneType_le (rfl) F.entry_NoneType_le (F.args_NoneType_le_2 _ _) m_none_le ⟨rfl, h⟩)
  · exact wpAny_tryCompare_declines (rfl) F.slot_NoneType_gt (call_meetsIn F.slot_NoneType_gt (rfl) F.entry_NoneType_gt (F.args_NoneType_gt_2 _ _) m_none_gt ⟨rfl, h⟩)
  · exact wpAny_tryCompare_declines (rfl) F.slot_NoneType_ge (call_meetsIn F.slot_NoneType_ge (rfl) F.entry_NoneType_ge (F.args_NoneType_ge_2 _ _) m_none_ge ⟨rfl, h⟩)
theorem ref_NoneType {Q : Option Value → Shared → Prop} (h6 : Six op) (hn : (op = .Eq ∨ op = .NotEq) → (w == .none) = false) (h : Q none s) : wpAny (model prog wd) A (tryCompare .none (cmpInfo op).2.2 w) Q E s := by
  rcases h6 with rfl | rfl | rfl | rfl | rfl | rfl
  · exact wpAny_tryCompare_declines (rfl) F.slot_NoneType_eq_refl (call_meetsIn F.slot_NoneType_eq_refl (rfl) F.entry_NoneType_eq (F.args_NoneType_eq_2 _ _) m_none_eq ⟨hn (by simp), rfl, h⟩)
  · exact wpAny_tryCompare_declines (rfl) F.slot_NoneType_ne_refl (call_meetsIn F.slot_NoneType_ne_refl (rfl) F.entry_NoneType_ne (F.args_NoneType_ne_2 _ _) m_none_ne ⟨hn (by simp), rfl, h⟩)
  · exact wpAny_tryCompare_declines (rfl) F.slot_NoneType_gt_refl (call_meetsIn F.slot_NoneType_gt_refl (rfl) F.entry_NoneType_gt (F.args_NoneType_gt_2 _ _) m_none_gt ⟨rfl, h⟩)
  · exact wpAny_tryCompare_declines (rfl) F.slot_NoneType_ge_refl (call_meetsIn F.slot_NoneType_ge_refl (rfl) F.entry_NoneType_ge (F.args_NoneType_ge_2 _ _) m_none_ge ⟨rfl, h⟩)
  · exact wpAny_tryCompare_declines (rfl) F.slot_NoneType_lt_refl (call_meetsIn F.slot_NoneType_lt_refl (rfl) F.entry_NoneType_lt (F.args_NoneType_lt_2 _ _) m_none_lt ⟨rfl, h⟩)
  · exact wpAny_tryCompare_declines (rfl) F.slot_NoneType_le_refl (call_meetsIn F.slot_NoneType_le_refl (rfl) F.entry_NoneType_le (F.args_NoneType_le_2 _ _) m_none_le ⟨rfl, h⟩)
theorem dec_list {l : Addr} {o : Obj} {Q : Option Value → Shared → Prop} (h6 : Six op) (ho : s.heap.get? l = some o) (hc : o.cls = .type "list") (hn : NoInst prog wd "list" w s) (h : Q none s) : wpAny (model prog wd) A (tryCompare (.ref l) (cmpInfo op).2.1 w) Q E s := by
  rcases h6 with rfl | rfl | rfl | rfl | rfl | rfl
  · exact wpAny_tryCompare_declines (⟨o, ho, hc⟩) F.slot_list_eq (call_meetsIn F.slot_list_eq (⟨o, ho, hc⟩) F.entry_list_eq (F.args_list_eq_2 _ _) m_list_eq ⟨hn, rfl, h⟩)
  · exact wpAny_tryCompare_declines (⟨o, ho, hc⟩) F.slot_list_ne (call_meetsIn F.slot_list_ne (⟨o, ho, hc⟩) F.entry_list_ne (F.args_list_ne_2 _ _) m_list_ne ⟨hn, rfl, h⟩)
  · exact wpAny_tryCompare_declines (⟨o, ho, hc⟩) F.slot_list_lt (call_meetsIn F.slot_list_lt (⟨o, ho, hc⟩) F.entry_list_lt (F.args_list_lt_2 _ _) m_list_lt ⟨hn, rfl, h⟩)
  · exact wpAny_tryCompare_declines (⟨o, ho, hc⟩) F.slot_list_le (call_meetsIn F.slot_list_le (⟨o, ho, hc⟩) F.entry_list_le (F.args_list_le_2 _ _) m_list_le ⟨hn, rfl, h⟩)
  · exact wpAny_tryCompare_declines (⟨o, ho, hc⟩) F.slot_list_gt (call_meetsIn F.slot_list_gt (⟨o, ho, hc⟩) F.entry_list_gt (F.args_list_gt_2 _ _) m_list_gt ⟨hn, rfl, h⟩)
  · exact wpAny_tryCompare_declines (⟨o, ho, hc⟩) F.slot_list_ge (call_meetsIn F.slot_list_ge (⟨o, ho, hc⟩) F.entry_list_ge (F.args_list_ge_2 _ _) m_list_ge ⟨hn, rfl, h⟩)
theorem ref_list {l : Addr} {o : Obj} {Q : Option Value → Shared → Prop} (h6 : Six op) (ho : s.heap.get? l = some o) (hc : o.cls = .type "list") (hn : NoInst prog wd "list" w s) (h : Q none s) : wpAny (model prog wd) A (tryCompare (.ref l) (cmpInfo op).2.2 w) Q E s := by
  rcases h6 with rfl | rfl | rfl | rfl | rfl | rfl
  · exact wpAny_tryCompare_declines (⟨o, ho, hc⟩) F.slot_list_eq_refl (call_meetsIn F.slot_list_eq_refl (⟨o, ho, hc⟩) F.entry_list_eq (F.args_list_eq_2 _ _) m_list_eq ⟨hn, rfl, h⟩)
  · exact wpAny_tryCompare_declines (⟨o, ho, hc⟩) F.slot_list_ne_refl (call_meetsIn F.slot_list_ne_refl (⟨o, ho, hc⟩) F.entry_list_ne (F.args_list_ne_2 _ _) m_list_ne ⟨hn, rfl, h⟩)
  · exact wpAny_tryCompare_declines (⟨o, ho, hc⟩) F.slot_list_gt_refl (call_meetsIn F.slot_list_gt_refl (⟨o, ho, hc⟩) F.entry_list_gt (F.args_list_gt_2 _ _) m_list_gt ⟨hn, rfl, h⟩)
  · exact wpAny_tryCompare_declines (⟨o, ho, hc⟩) F.slot_list_ge_refl (call_meetsIn F.slot_list_ge_refl (⟨o, ho, hc⟩) F.entry_list_ge (F.args_list_ge_2 _ _) m_list_ge ⟨hn, rfl, h⟩)
  · exact wpAny_tryCompare_declines (⟨o, ho, hc⟩) F.slot_list_lt_refl (call_meetsIn F.slot_list_lt_refl (⟨o, ho, hc⟩) F.entry_list_lt (F.args_list_lt_2 _ _) m_list_lt ⟨hn, rfl, h⟩)
  · exact wpAny_tryCompare_declines (⟨o, ho, hc⟩) F.slot_list_le_refl (call_meetsIn F.slot_list_le_refl (⟨o, ho, hc⟩) F.entry_list_le (F.args_list_le_2 _ _) m_list_le ⟨hn, rfl, h⟩)
theorem dec_tuple {l : Addr} {o : Obj} {Q : Option Value → Shared → Prop} (h6 : Six op) (ho : s.heap.get? l = some o) (hc : o.cls = .type "tuple") (hn : NoInst prog wd "tuple" w s) (h : Q none s) : wpAny (model prog wd) A (tryCompare (.ref l) (cmpInfo op).2.1 w) Q E s := by
  rcases h6 with rfl | rfl | rfl | rfl | rfl | rfl
  · exact wpAny_tryCompare_declines (⟨o, ho, hc⟩) F.slot_tuple_eq (call_meetsIn F.slot_tuple_eq (⟨o, ho, hc⟩) F.entry_tuple_eq (F.args_tuple_eq_2 _ _) m_tuple_eq ⟨hn, rfl, h⟩)
  · exact wpAny_tryCompare_declines (⟨o, ho, hc⟩) F.slot_tuple_ne (call_meetsIn F.slot_tuple_ne (⟨o, ho, hc⟩) F.entry_tuple_ne (F.args_tuple_ne_2 _ _) m_tuple_ne ⟨hn, rfl, h⟩)
  · exact wpAny_tryCompare_declines (⟨o, ho, hc⟩) F.slot_tuple_lt (call_meetsIn F.slot_tuple_lt (⟨o, ho, hc⟩) F.entry_tuple_lt (F.args_tuple_lt_2 _ _) m_tuple_lt ⟨hn, rfl, h⟩)
  · exact wpAny_tryCompare_declines (⟨o, ho, hc⟩) F.slot_tuple_le (call_meetsIn F.slot_tuple_le (⟨o, ho, hc⟩) F.entry_tuple_le (F.args_tuple_le_2 _ _) m_tuple_le ⟨hn, rfl, h⟩)
  · exact wpAny_tryCompare_declines (⟨o, ho, hc⟩) F.slot_tuple_gt (call_meetsIn F.slot_tuple_gt (⟨o, ho, hc⟩) F.entry_tuple_gt (F.args_tuple_gt_2 _ _) m_tuple_gt ⟨hn, rfl, h⟩)
  · exact wpAny_tryCompare_declines (⟨o, ho, hc⟩) F.slot_tuple_ge (call_meetsIn F.slot_tuple_ge (⟨o, ho, hc⟩) F.entry_tuple_ge (F.args_tuple_ge_2 _ _) m_tuple_ge ⟨hn, rfl, h⟩)
theorem ref_tuple {l : Addr} {o : Obj} {Q : Option Value → Shared → Prop} (h6 : Six op) (ho : s.heap.get? l = some o) (hc : o.cls = .type "tuple") (hn : NoInst prog wd "tuple" w s) (h : Q none s) : wpAny (model prog wd) A (tryCompare (.ref l) (cmpInfo op).2.2 w) Q E s := by
  rcases h6 with rfl | rfl | rfl | rfl | rfl | rfl
  · exact wpAny_tryCompare_declines (⟨o, ho, hc⟩) F.slot_tuple_eq_refl (call_meetsIn F.slot_tuple_eq_refl (⟨o, ho, hc⟩) F.entry_tuple_eq (F.args_tuple_eq_2 _ _) m_tuple_eq ⟨hn, rfl, h⟩)
  · exact wpAny_tryCompare_declines (⟨o, ho, hc⟩) F.slot_tuple_ne_refl (call_meetsIn F.slot_tuple_ne_refl (⟨o, ho, hc⟩) F.entry_tuple_ne (F.args_tuple_ne_2 _ _) m_tuple_ne ⟨hn, rfl, h⟩)
  · exact wpAny_tryCompare_declines (⟨o, ho, hc⟩) F.slot_tuple_gt_refl (call_meetsIn F.slot_tuple_gt_refl (⟨o, ho, hc⟩) F.entry_tuple_gt (F.args_tuple_gt_2 _ _) m_tuple_gt ⟨hn, rfl, h⟩)
  · exact wpAny_tryCompare_declines (⟨o, ho, hc⟩) F.slot_tuple_ge_refl (call_meetsIn F.slot_tuple_ge_refl (⟨o, ho, hc⟩) F.entry_tuple_ge (F.args_tuple_ge_2 _ _) m_tuple_ge ⟨hn, rfl, h⟩)
  · exact wpAny_tryCompare_declines (⟨o, ho, hc⟩) F.slot_tuple_lt_refl (call_meetsIn F.slot_tuple_lt_refl (⟨o, ho, hc⟩) F.entry_tuple_lt (F.args_tuple_lt_2 _ _) m_tuple_lt ⟨hn, rfl, h⟩)
  · exact wpAny_tryCompare_declines (⟨o, ho, hc⟩) F.slot_tuple_le_refl (call_meetsIn F.slot_tuple_le_refl (⟨o, ho, hc⟩) F.entry_tuple_le (F.args_tuple_le_2 _ _) m_tuple_le ⟨hn, rfl, h⟩)
end
set_option maxHeartbeats 4000000
/-! ## the contract of a comparison: it answers, or raises TypeError -/
def Ext (h h' : Heap) : Prop := ∀ b o, h.get? b = some o → h'.get? b = some o
theorem Ext.refl (h : Heap) : Ext h h := fun _ _ e => e
theorem Ext.trans {a b c : Heap} (x : Ext a b) (y : Ext b c) : Ext a c := fun _ _ e => y _ _ (x _ _ e)

/-- the exception flies: made just now, or noted by a frame -/
def Up (B : Heap) (l : List Env) (e : Addr) (h h' : Heap) : Prop :=
  (∃ g, Ext h g ∧ Heap.NewExc g h' e "TypeError") ∨ (∃ a0, Heap.FlyingW B l e (.type "TypeError") a0 h' ∧ h.UpToSlots h')
theorem Up.pre {B : Heap} {l : List Env} {e : Addr} {h g h' : Heap} (x : Ext h g) (u : Up B l e g h') : Up B l e h h' :=
  u.elim (fun ⟨k, a, b⟩ => .inl ⟨k, x.trans a, b⟩) fun ⟨a0, f, u⟩ => .inr ⟨a0, f, (Heap.UpToSlots.of_keeps x).trans u⟩

theorem below_ext {A : Around} {B h h' : Heap} {l : List Env} (K : Below A B l h) (x : Ext h h') : Below A B l h' :=
  ⟨K.stack, fun b o e => x _ _ (K.stays b o e), K.frames.of_keeps fun b o e _ => ⟨o, x _ _ e, rfl⟩⟩

theorem up_leave {M : Model} {A : Around} {E : Value → Shared → Prop} {s' : Shared} {B g h : Heap} {outer : List Env} {L a e : Addr} {m : Str → Option Value} {name : Str} {scope : Scope} {cd : Value} {Q : Unit → Shared → Prop}
    (K : Below A B outer g) (F : Fr g L h m) (hx : Up B (envOf name scope L a cd :: outer) e h s'.heap)
    (hQ : ∀ h', Up B outer e g h' → Q () { s' with heap := h' }) (hk : scope.kind = .function := by rfl) :
    wpAny M (A.deeper (envOf name scope L a cd)) (leaving (envOf name scope L a cd) (.ref e)) Q E s' := by
  rcases hx with ⟨h2, x, hx⟩ | ⟨a0, fl, us⟩
  · have K' := below_ext (K.push (name := name) (a := a) (cd := cd) F hk) x
    obtain ⟨ob, tp, he, hcls, hd⟩ := hx.there
    have hen : B.get? e = none := by
      cases q : B.get? e with
      | none => rfl
      | some o => have := K'.stays _ _ q; rw [hx.new] at this; cases this
    refine wpAny_leaving_firstW (a0 := tp) K'.stack (K'.frames.of_keeps fun b o hb _ => ⟨o, hx.keeps b o hb, rfl⟩) rfl he (fun b o hb => hx.keeps b o (K'.stays b o hb)) hen hd rfl rfl fun h' hL => ?_
    obtain ⟨k1, ⟨_, _, k2⟩, k3, k4⟩ := hL
    exact hQ h' (.inr ⟨tp, ⟨k1, hen, k2, by rw [← hcls]; exact k3⟩, (((Heap.UpToSlots.of_keeps F.keep).trans (Heap.UpToSlots.of_keeps x)).trans (Heap.UpToSlots.of_keeps hx.keeps)).trans k4⟩)
  · exact wpAny_leaves_onW (Around.frames_deeper K.stack) rfl fl fun h' x1 x2 => hQ h' (.inr ⟨a0, x1, (Heap.UpToSlots.of_keeps F.keep).trans (us.trans x2)⟩)

def CmpOk (prog : Program) (wd : World) (B : Heap) (n : Nat) (v w : Value) (r : Res) : Prop :=
  ∀ (op : CmpOp), Six op → ∀ (A : Around) (outer : List Env) (s : Shared) (Q E : Value → Shared → Prop), Below A B outer s.heap → A.handled = none → A.depth + n < recursionLimit → A.units + 8 * n < cLine →
    (∀ b h' tk, ans op r = some b → Ext s.heap h' → Q (.bool b) { s with heap := h', toks := tk }) →
    (∀ e h' tk, ans op r = none → Up B outer e s.heap h' → E (.ref e) { s with heap := h', toks := tk }) →
    wpAny (model prog wd) A (richCompare op v w) Q E s

noncomputable def rcTail (op : CmpOp) (a b : Value) : Sem Value := match op with
  | .Eq => do rule "compare.eq-identity"; return .bool (← isSame a b)
  | .NotEq => do rule "compare.ne-identity"; return .bool (!(← isSame a b))
  | _ => do
    rule "compare.unsupported"
    raiseError "TypeError" s!"'{(cmpInfo op).1}' not supported between instances of '{← typeNameOf a}' and '{← typeNameOf b}'"

section
variable {prog : Program} {wd : World} {A : Around} {s : Shared} {Q E : Value → Shared → Prop} {op : CmpOp} {a b ta tb : Value} {B : Heap}
theorem rc_base (hu : A.units < cLine) (h1 : oneThing? op a b = none) (k : Ext B s.heap) (ha : Looks (model prog wd) B (typeOf a) ta) (hb : Looks (model prog wd) B (typeOf b) tb) (hs : ta = tb ∨ Looks (model prog wd) B (isSubtype tb ta) false)
    (h : wpAny (model prog wd) A (tryCompare a (cmpInfo op).2.1 b) (fun r s' => match r with
      | some v => Q v s'
      | none => wpAny (model prog wd) A (tryCompare b (cmpInfo op).2.2 a) (fun r s' => match r with
        | some v => Q v s'
        | none => wpAny (model prog wd) A (rcTail op a b) Q E s') E s') E s) : wpAny (model prog wd) A (richCompare op a b) Q E s := by
  unfold richCompare
  simp only [h1]
  refine wpAny_holding (wpAny_bind (wpAny_cRoomFor hu ?_))
  refine wpAny_bind (ha A _ _ _ k (wpAny_bind (hb A _ _ _ k ?_)))
  split
  · rename_i q
    have e : Looks (model prog wd) B (isSubtype tb ta) false := by
      rcases hs with e | e
      · rw [e] at q; simp at q
      · exact e
    refine wpAny_bind (e A _ _ _ k ?_)
    simp only [Bool.false_eq_true, if_false, Bool.not_false, if_true]
    refine wpAny_bind (wpAny_mono h (fun r s' hr => ?_) fun _ _ e => e)
    cases r with
    | some v => exact wpAny_pure hr
    | none =>
      refine wpAny_bind (wpAny_mono hr (fun r s' hr => ?_) fun _ _ e => e)
      cases r with
      | some v => exact wpAny_pure hr
      | none => cases op <;> exact hr
  · refine wpAny_bind (wpAny_pure ?_)
    simp only [Bool.false_eq_true, if_false, Bool.not_false, if_true]
    refine wpAny_bind (wpAny_mono h (fun r s' hr => ?_) fun _ _ e => e)
    cases r with
    | some v => exact wpAny_pure hr
    | none =>
      refine wpAny_bind (wpAny_mono hr (fun r s' hr => ?_) fun _ _ e => e)
      cases r with
      | some v => exact wpAny_pure hr
      | none => cases op <;> exact hr

theorem tail_eq (k : Ext B s.heap) (h : Looks (model prog wd) B (isSame a b) false) (hq : Q (.bool false) s) : wpAny (model prog wd) A (rcTail .Eq a b) Q E s :=
  wpAny_bind (wpAny_rule (wpAny_bind (h A _ _ _ k (wpAny_pure hq))))
theorem tail_ne (k : Ext B s.heap) (h : Looks (model prog wd) B (isSame a b) false) (hq : Q (.bool true) s) : wpAny (model prog wd) A (rcTail .NotEq a b) Q E s :=
  wpAny_bind (wpAny_rule (wpAny_bind (h A _ _ _ k (wpAny_pure hq))))
theorem tail_ord {na nb : String} (h6 : op = .Lt ∨ op = .LtE ∨ op = .Gt ∨ op = .GtE) (k : Ext B s.heap) (hh : A.handled = none) (ha : Looks (model prog wd) B (typeNameOf a) na) (hb : Looks (model prog wd) B (typeNameOf b) nb) (hna : na.length ≤ 1000) (hnb : nb.length ≤ 1000)
    (he : ∀ h' tk e, Heap.NewExc s.heap h' e "TypeError" → E (.ref e) { s with heap := h', toks := tk }) : wpAny (model prog wd) A (rcTail op a b) Q E s := by
  have main : wpAny (model prog wd) A (do
    rule "compare.unsupported"
    raiseError "TypeError" s!"'{(cmpInfo op).1}' not supported between instances of '{← typeNameOf a}' and '{← typeNameOf b}'") Q E s := by
    refine wpAny_bind (wpAny_rule (wpAny_bind (ha A _ _ _ k (wpAny_bind (hb A _ _ _ k (wpAny_raiseTypeError hh he ?_))))))
    show (Str.ofString _).length ≤ sizeLine
    rw [PySem.ofString_length, sizeLine_eq]
    simp only [String.length_append, toString]
    have e1 : "'".length ≤ 100 := by decide
    have e2 : (cmpInfo op).1.length ≤ 100 := by rcases h6 with rfl | rfl | rfl | rfl <;> decide
    have e3 : "' not supported between instances of '".length ≤ 100 := by decide
    have e4 : "' and '".length ≤ 100 := by decide
    omega
  rcases h6 with rfl | rfl | rfl | rfl <;> exact main
end
set_option maxHeartbeats 4000000
/-! ## the kinds of a core -/
inductive Core (B : Heap) : Value → String → Prop
  | int (i : Int) (t : Tok) : Core B (.int i t) "int"
  | str (x : Str) (t : Tok) : Core B (.str x t) "str"
  | non : Core B .none "NoneType"
  | list {a : Addr} {dd : Option Addr} {xs : Array Value} {n : Nat} {sl : Array (Option Value)} : B.get? a = some ⟨.type "list", dd, .seq xs n, sl⟩ → Core B (.ref a) "list"
  | tuple {a : Addr} {dd : Option Addr} {xs : Array Value} {n : Nat} {sl : Array (Option Value)} : B.get? a = some ⟨.type "tuple", dd, .seq xs n, sl⟩ → Core B (.ref a) "tuple"

structure Off (prog : Program) (wd : World) (B : Heap) (T : String) (w : Value) : Prop where
  int : T = "int" → Looks (model prog wd) B (asInt? w) Option.none
  str : T = "str" → Looks (model prog wd) B (asStr? w) Option.none
  none : T = "NoneType" → (w == .none) = false
  seq : T = "list" ∨ T = "tuple" → ∃ tw, Looks (model prog wd) B (typeOf w) tw ∧ Looks (model prog wd) B (isSubtype tw (.type T)) false

theorem sub_off {T T' : String} (h : T ∈ ["int", "str", "NoneType", "list", "tuple"]) (h' : T' ∈ ["int", "str", "NoneType", "list", "tuple"]) (hne : T ≠ T') : isSubtype (.type T') (.type T) = pure false := by
  simp only [List.mem_cons, List.not_mem_nil, or_false] at h h'
  rw [isSubtype_type]
  rcases h with rfl | rfl | rfl | rfl | rfl <;> rcases h' with rfl | rfl | rfl | rfl | rfl <;> first | exact absurd rfl hne | kernel_rfl

section
variable {prog : Program} {wd : World} {A : Around} {s : Shared} {E : Value → Shared → Prop} {op : CmpOp} {v w : Value} {B : Heap} {T T' : String}
theorem Core.mem (C : Core B v T) : T ∈ ["int", "str", "NoneType", "list", "tuple"] := by cases C <;> decide
theorem Core.typeOf (C : Core B v T) : Looks (model prog wd) B (typeOf v) (.type T) := by
  cases C
  · exact .of_pure rfl
  · exact .of_pure rfl
  · exact .of_pure rfl
  · rename_i h; exact (Looks.ld h).andThen .now
  · rename_i h; exact (Looks.ld h).andThen .now
theorem Core.typeIs (C : Core B v T) (k : Ext B s.heap) : s.TypeIs v T := by
  cases C
  · exact typeIs_int _ _ _
  · exact typeIs_str _ _ _
  · exact rfl
  · rename_i h; exact ⟨_, k _ _ h, rfl⟩
  · rename_i h; exact ⟨_, k _ _ h, rfl⟩
theorem Core.one (C : Core B v T) (op : CmpOp) (b : Value) : oneThing? op v b = none := by cases C <;> rfl
theorem Core.off (C : Core B v T') (h : T ∈ ["int", "str", "NoneType", "list", "tuple"]) (hne : T ≠ T') : Off prog wd B T v where
  int := fun e => by
    subst e
    cases C
    · exact absurd rfl hne
    · exact .of_pure rfl
    · exact .of_pure rfl
    · rename_i h; exact (Looks.ld (part := Option.none) h).andThen .now
    · rename_i h; exact (Looks.ld (part := Option.none) h).andThen .now
  str := fun e => by
    subst e
    cases C
    · exact .of_pure rfl
    · exact absurd rfl hne
    · exact .of_pure rfl
    · rename_i h; exact (Looks.ld (part := Option.none) h).andThen .now
    · rename_i h; exact (Looks.ld (part := Option.none) h).andThen .now
  none := fun e => by
    subst e
    cases C <;> first | rfl | exact absurd rfl hne
  seq := fun _ => ⟨_, C.typeOf, .of_pure (sub_off h C.mem hne)⟩
theorem Core.declines {Q : Option Value → Shared → Prop} (C : Core B v T) (o : Off prog wd B T w) (h6 : Six op) (k : Ext B s.heap) (h : Q none s) : wpAny (model prog wd) A (tryCompare v (cmpInfo op).2.1 w) Q E s := by
  cases C
  · exact dec_int h6 (fun A Q E q => o.int rfl A Q E s k q) h
  · exact dec_str h6 (fun A Q E q => o.str rfl A Q E s k q) h
  · exact dec_NoneType h6 (fun _ => o.none rfl) h
  · rename_i ho
    obtain ⟨tw, l1, l2⟩ := o.seq (.inl rfl)
    exact dec_list h6 (k _ _ ho) rfl ⟨tw, fun A Q E q => l1 A Q E s k q, fun A Q E q => l2 A Q E s k q⟩ h
  · rename_i ho
    obtain ⟨tw, l1, l2⟩ := o.seq (.inr rfl)
    exact dec_tuple h6 (k _ _ ho) rfl ⟨tw, fun A Q E q => l1 A Q E s k q, fun A Q E q => l2 A Q E s k q⟩ h
theorem Core.refl {Q : Option Value → Shared → Prop} (C : Core B v T) (o : Off prog wd B T w) (h6 : Six op) (k : Ext B s.heap) (h : Q none s) : wpAny (model prog wd) A (tryCompare v (cmpInfo op).2.2 w) Q E s := by
  cases C
  · exact ref_int h6 (fun A Q E q => o.int rfl A Q E s k q) h
  · exact ref_str h6 (fun A Q E q => o.str rfl A Q E s k q) h
  · exact ref_NoneType h6 (fun _ => o.none rfl) h
  · rename_i ho
    obtain ⟨tw, l1, l2⟩ := o.seq (.inl rfl)
    exact ref_list h6 (k _ _ ho) rfl ⟨tw, fun A Q E q => l1 A Q E s k q, fun A Q E q => l2 A Q E s k q⟩ h
  · rename_i ho
    obtain ⟨tw, l1, l2⟩ := o.seq (.inr rfl)
    exact ref_tuple h6 (k _ _ ho) rfl ⟨tw, fun A Q E q => l1 A Q E s k q, fun A Q E q => l2 A Q E s k q⟩ h
theorem Core.apart (C : Core B v T) (C' : Core B w T') (hne : T ≠ T') : Looks (model prog wd) B (isSame v w) false := by
  cases C <;> cases C' <;> first
    | exact absurd rfl hne
    | exact .of_pure rfl
    | (rename_i hx _ _ _ _ _ hy
       intro A Q E s k q
       unfold isSame
       refine wpAny_ite_split (fun hab => ?_) (fun _ => ?_)
       · have hab' := beq_iff_eq.mp hab; rw [hab', hy] at hx; have h3 := congrArg (fun o => o.map (·.cls)) hx; simp at h3
       · exact wpAny_bind (wpAny_load (k _ _ hx) (wpAny_bind (wpAny_load (k _ _ hy) (wpAny_pure q)))))
theorem Core.shown (C : Core B v T) : Looks (model prog wd) B (typeNameOf v) (shownName T) := fun A Q E s k q =>
  wpAny_typeNameOf' (C.typeIs k) (by have h := C.mem; simp only [List.mem_cons, List.not_mem_nil, or_false] at h; rcases h with rfl | rfl | rfl | rfl | rfl <;> decide) q
theorem Core.short (C : Core B v T) : (shownName T).length ≤ 1000 := by have h := C.mem; simp only [List.mem_cons, List.not_mem_nil, or_false] at h; rcases h with rfl | rfl | rfl | rfl | rfl <;> decide +kernel

theorem cmp_apart {n : Nat} (hn : 1 ≤ n) (C : Core B v T) (C' : Core B w T') (hne : T ≠ T') : CmpOk prog wd B n v w (false, none) := by
  intro op h6 A outer s Q E K hh hd hu ok ng
  refine rc_base (by omega) (C.one _ _) K.stays C.typeOf C'.typeOf (.inr (.of_pure (sub_off C.mem C'.mem hne))) ?_
  refine C.declines (C'.off C.mem hne) h6 K.stays ?_
  refine C'.refl (C.off C'.mem (Ne.symm hne)) h6 K.stays ?_
  rcases h6 with rfl | rfl | h6
  · exact tail_eq K.stays (C.apart C' hne) (ok false _ _ rfl (Ext.refl _))
  · exact tail_ne K.stays (C.apart C' hne) (ok true _ _ rfl (Ext.refl _))
  · exact tail_ord h6 K.stays hh C.shown C'.shown C.short C'.short fun h' tk e x => ng e h' tk (by rcases h6 with rfl | rfl | rfl | rfl <;> rfl) (.inl ⟨s.heap, Ext.refl _, x⟩)

theorem cmp_none {n : Nat} (hn : 1 ≤ n) : CmpOk prog wd B n .none .none (true, none) := by
  intro op h6 A outer s Q E K hh hd hu ok ng
  rcases h6 with rfl | rfl | h6
  · exact EqNone.eq_none_none (ok true _ _ rfl (Ext.refl _))
  · exact EqNone.ne_none_none (ok false _ _ rfl (Ext.refl _))
  · have C : Core B .none "NoneType" := .non
    refine rc_base (by omega) (C.one _ _) K.stays C.typeOf C.typeOf (.inl rfl) ?_
    have h7 : Six op := .inr (.inr h6)
    refine dec_NoneType h7 (by rintro (rfl | rfl) <;> rcases h6 with h | h | h | h <;> cases h) ?_
    refine ref_NoneType h7 (by rintro (rfl | rfl) <;> rcases h6 with h | h | h | h <;> cases h) ?_
    exact tail_ord h6 K.stays hh C.shown C.shown C.short C.short fun h' tk e x => ng e h' tk (by rcases h6 with rfl | rfl | rfl | rfl <;> rfl) (.inl ⟨s.heap, Ext.refl _, x⟩)

theorem ans_sgn (e gt lt : Bool) (ha : ¬ (gt = true ∧ lt = true)) :
    ans .Lt (e, some (sgn gt lt)) = some lt ∧ ans .LtE (e, some (sgn gt lt)) = some (!gt) ∧ ans .Gt (e, some (sgn gt lt)) = some gt ∧ ans .GtE (e, some (sgn gt lt)) = some (!lt) := by
  cases gt <;> cases lt <;> first | (exact absurd ⟨rfl, rfl⟩ ha) | (refine ⟨?_, ?_, ?_, ?_⟩ <;> rfl)
theorem cmp_int {n : Nat} {i j : Int} {t u : Tok} : CmpOk prog wd B n (.int i t) (.int j u) (leafRes (.int i) (.int j)) := by
  intro op h6 A outer s Q E K hh hd hu ok ng
  obtain ⟨a1, a2, a3, a4⟩ := ans_sgn (i == j) (decide (i > j)) (decide (i < j)) (by simp; omega)
  rcases h6 with rfl | rfl | rfl | rfl | rfl | rfl
  · exact eq_int (ok _ _ _ rfl (Ext.refl _))
  · exact ne_int (ok _ _ _ rfl (Ext.refl _))
  · exact lt_int (ok _ _ _ a1 (Ext.refl _))
  · exact le_int (ok _ _ _ (a2.trans (by congr 1; rw [Bool.eq_iff_iff]; simp; try omega)) (Ext.refl _))
  · exact gt_int (ok _ _ _ a3 (Ext.refl _))
  · exact ge_int (ok _ _ _ (a4.trans (by congr 1; rw [Bool.eq_iff_iff]; simp; try omega)) (Ext.refl _))
theorem cmp_str {n : Nat} {i j : Str} {t u : Tok} : CmpOk prog wd B n (.str i t) (.str j u) (leafRes (.str i) (.str j)) := by
  intro op h6 A outer s Q E K hh hd hu ok ng
  obtain ⟨a1, a2, a3, a4⟩ := ans_sgn (i.cps.toList == j.cps.toList) (decide (j.cps.toList < i.cps.toList)) (decide (i.cps.toList < j.cps.toList)) (by simp only [decide_eq_true_eq]; exact fun ⟨a, b⟩ => List.lt_asymm a b)
  rcases h6 with rfl | rfl | rfl | rfl | rfl | rfl
  · exact P.eq_str (ok _ _ _ rfl (Ext.refl _))
  · exact P.ne_str (ok _ _ _ rfl (Ext.refl _))
  · exact P.lt_str (ok _ _ _ a1 (Ext.refl _))
  · exact P.le_str (ok _ _ _ a2 (Ext.refl _))
  · exact P.gt_str (ok _ _ _ a3 (Ext.refl _))
  · exact P.ge_str (ok _ _ _ a4 (Ext.refl _))
end
open AutoSeq1 (wpAny_loadPart')
open MeetsSeq MeetsSeq2 MeetsSeq3 SeqRoads2
set_option maxHeartbeats 4000000
/-! ## rows, item by item -/
section
variable {prog : Program} {wd : World} {A : Around} {s : Shared} {E : Value → Shared → Prop} {op : CmpOp} {x y : Value} {B : Heap} {n : Nat} {r : Res} {outer : List Env}
theorem eqBool_ok {Q : Bool → Shared → Prop} (C : CmpOk prog wd B n x y r) (hs : x = y → r.1 = true) (hf : ∀ b t, x ≠ .float b t) (K : Below A B outer s.heap) (hh : A.handled = none) (hd : A.depth + n < recursionLimit) (hu : A.units + 8 * n < cLine)
    (h : ∀ h' tk, Ext s.heap h' → Q r.1 { s with heap := h', toks := tk }) : wpAny (model prog wd) A (eqBool x y) Q E s := by
  unfold eqBool
  refine wpAny_holding ?_
  refine wpAny_ite_split (fun hab => ?_) (fun _ => ?_)
  · have e := hs (eq_of_beq hab)
    refine wpAny_bind (wpAny_rule (wpAny_pure ?_))
    have q := h s.heap s.toks (Ext.refl _)
    rw [e] at q
    exact q
  · have fin : wpAny (model prog wd) A (richCompare .Eq x y >>= truthOfDropped) Q E s :=
      wpAny_bind (C .Eq (.inl rfl) A outer s _ _ K hh hd hu (fun b h' tk e k => wpAny_truthy_bool (by cases e; exact h h' tk k)) fun e h' tk z _ => by cases z)
    cases x <;> first | exact fin | exact absurd rfl (hf _ _)

structure Items (prog : Program) (wd : World) (B : Heap) (n : Nat) (f : D → D → Res) (xs ys : Array Value) (ds es : List D) : Prop where
  lx : xs.size = ds.length
  ly : ys.size = es.length
  ok : ∀ j (h1 : j < xs.size) (h2 : j < ys.size) (h3 : j < ds.length) (h4 : j < es.length), CmpOk prog wd B n xs[j] ys[j] (f ds[j] es[j])
  same : ∀ j (h1 : j < xs.size) (h2 : j < ys.size) (h3 : j < ds.length) (h4 : j < es.length), xs[j] = ys[j] → (f ds[j] es[j]).1 = true
  nofl : ∀ j (h1 : j < xs.size), ∀ b t, xs[j] ≠ .float b t

/-- the situation of a comparison, and what it is to show -/
def Sit (B : Heap) (n : Nat) (op : CmpOp) (r : Res) (A : Around) (R : Result → Shared → Prop) (s : Shared) : Prop :=
  ∃ outer, Below A B outer s.heap ∧ A.handled = none ∧ A.depth + n < recursionLimit ∧ A.units + 1 + 8 * n < cLine ∧
    (∀ b h' tk, ans op r = some b → Ext s.heap h' → R (.ok (.ret (.bool b))) { s with heap := h', toks := tk }) ∧
    (∀ e h' tk, ans op r = none → Up B outer e s.heap h' → R (.error (.ref e)) { s with heap := h', toks := tk })
theorem Sit.ext {B : Heap} {n : Nat} {op : CmpOp} {r : Res} {A : Around} {R : Result → Shared → Prop} {s : Shared} (x : Sit B n op r A R s) {h' : Heap} {tk : Nat} (k : Ext s.heap h') : Sit B n op r A R { s with heap := h', toks := tk } := by
  obtain ⟨outer, K, a, b, c, d, e⟩ := x
  exact ⟨outer, below_ext K k, a, b, c, fun b h'' tk z k' => d b h'' tk z (k.trans k'), fun e' h'' tk z u => e e' h'' tk z (u.pre k)⟩

theorem row_nil_nil {f : D → D → Res} {ds es : List D} {i : Nat} (h1 : ds.length ≤ i) (h2 : es.length ≤ i) : rowRes f (ds.drop i) (es.drop i) = (true, some 0) := by
  rw [List.drop_of_length_le h1, List.drop_of_length_le h2]; rfl
theorem row_cons {f : D → D → Res} {ds es : List D} {i : Nat} (h1 : i < ds.length) (h2 : i < es.length) : rowRes f (ds.drop i) (es.drop i) = if (f ds[i] es[i]).1 then rowRes f (ds.drop (i + 1)) (es.drop (i + 1)) else (false, (f ds[i] es[i]).2) := by
  rw [List.drop_eq_getElem_cons h1, List.drop_eq_getElem_cons h2]; rfl
theorem row_end {f : D → D → Res} {ds es : List D} {i : Nat} (hi : i ≤ ds.length) (hi' : i ≤ es.length) (h : ds.length ≤ i ∨ es.length ≤ i) :
    rowRes f (ds.drop i) (es.drop i) = (decide (ds.length = es.length), some (sgn (decide (ds.length > es.length)) (decide (ds.length < es.length)))) := by
  rcases Nat.lt_trichotomy ds.length es.length with q | q | q
  · have e : i = ds.length := by omega
    rw [List.drop_of_length_le (l := ds) (by omega), List.drop_eq_getElem_cons (l := es) (by omega)]
    simp [rowRes, sgn]; omega
  · rw [List.drop_of_length_le (l := ds) (by omega), List.drop_of_length_le (l := es) (by omega)]
    simp [rowRes, sgn, q]
  · rw [List.drop_of_length_le (l := es) (by omega), List.drop_eq_getElem_cons (l := ds) (by omega)]
    simp [rowRes, sgn]; omega
noncomputable def sizes (op : CmpOp) (m n : Nat) : Bool := match op with
  | .Eq => m == n | .NotEq => m != n | .Lt => decide (m < n) | .LtE => decide (m ≤ n) | .Gt => decide (m > n) | _ => decide (m ≥ n)
theorem ans_sizes (h6 : Six op) (m n : Nat) : ans op (decide (m = n), some (sgn (decide (m > n)) (decide (m < n)))) = some (sizes op m n) := by
  obtain ⟨a1, a2, a3, a4⟩ := ans_sgn (decide (m = n)) (decide (m > n)) (decide (m < n)) (by simp; omega)
  rcases h6 with rfl | rfl | rfl | rfl | rfl | rfl
  · show some (decide (m = n)) = some (m == n); congr 1
  · show some (!decide (m = n)) = some (m != n); congr 1
  · exact a1
  · exact a2.trans (by congr 1; rw [Bool.eq_iff_iff]; simp [sizes])
  · exact a3
  · exact a4.trans (by congr 1; rw [Bool.eq_iff_iff]; simp [sizes])
end
section
variable {prog : Program} {wd : World} {B : Heap} {n : Nat} {f : D → D → Res} {xs ys : Array Value} {ds es : List D} {a b : Addr} {dd dd2 : Option Addr} {na nb : Nat} {sl sl2 : Array (Option Value)}

theorem none_at {xs : Array Value} {i : Nat} (h : xs.size ≤ i) : xs[((i : Nat) : Int).toNat]? = none := by simp; omega
theorem some_at {xs : Array Value} {i : Nat} (h : i < xs.size) : xs[((i : Nat) : Int).toNat]? = some xs[i] := by simp [h]
theorem cast_succ {i : Nat} : ((i : Int) + 1) = ((i + 1 : Nat) : Int) := by push_cast; rfl
theorem lt_of_sub {z i k : Nat} (h : z - i = k + 1) : i < z := by omega
theorem sub_next {z i k : Nat} (h : z - i = k + 1) : z - (i + 1) = k := by omega
theorem Sit.ground {B : Heap} {n : Nat} {op : CmpOp} {r : Res} {A : Around} {R : Result → Shared → Prop} {s : Shared} (x : Sit B n op r A R s) : ∀ b o, B.get? b = some o → s.heap.get? b = some o := by
  obtain ⟨outer, K, _⟩ := x
  exact K.stays
theorem turn_core {op : CmpOp} {i : Nat} {A : Around} {R : Result → Shared → Prop} {s : Shared} {Q : Bool → Shared → Prop} {E : Value → Shared → Prop} (I : Items prog wd B n f xs ys ds es) (h1 : i < xs.size) (h2 : i < ys.size) (S : Sit B n op (rowRes f (ds.drop i) (es.drop i)) A R s)
    (ht : ∀ h tk, Ext s.heap h → Sit B n op (rowRes f (ds.drop (i + 1)) (es.drop (i + 1))) A R { s with heap := h, toks := tk } → Q true { s with heap := h, toks := tk })
    (hf : ∀ h tk outer (h3 : i < ds.length) (h4 : i < es.length), Ext s.heap h → Below A.in1 B outer h → A.in1.handled = none → A.in1.depth + n < recursionLimit → A.in1.units + 8 * n < cLine →
      (∀ b h' tk', ans op (false, (f ds[i] es[i]).2) = some b → Ext s.heap h' → R (.ok (.ret (.bool b))) { s with heap := h', toks := tk' }) → (∀ e h' tk', ans op (false, (f ds[i] es[i]).2) = none → Up B outer e h h' → R (.error (.ref e)) { s with heap := h', toks := tk' }) → Q false { s with heap := h, toks := tk }) :
    wpAny (model prog wd) A.in1 (eqBool xs[i] ys[i]) Q E s := by
  have S0 := S
  obtain ⟨outer, K, hh, hd, hu, ok, ng⟩ := S
  have h3 : i < ds.length := I.lx ▸ h1
  have h4 : i < es.length := I.ly ▸ h2
  have er := row_cons (f := f) h3 h4
  refine eqBool_ok (outer := outer) (I.ok i h1 h2 h3 h4) (I.same i h1 h2 h3 h4) (I.nofl i h1) ⟨K.stack, K.stays, K.frames⟩ hh hd hu fun h' tk' x => ?_
  cases he : (f ds[i] es[i]).1 with
  | true =>
    rw [he, if_pos rfl] at er
    rw [er] at S0
    exact ht h' tk' x (S0.ext x)
  | false =>
    rw [he, if_neg (by decide)] at er
    rw [er] at ok ng
    exact hf h' tk' outer h3 h4 x ⟨K.stack, fun b o e => x _ _ (K.stays b o e), (below_ext K x).frames⟩ hh hd hu ok fun e h'' tk'' z u => ng e h'' tk'' z (u.pre x)
theorem end_core {op : CmpOp} {i : Nat} {A : Around} {R : Result → Shared → Prop} {s : Shared} (h6 : Six op) (I : Items prog wd B n f xs ys ds es) (hi : i ≤ xs.size) (hi' : i ≤ ys.size) (h : xs.size ≤ i ∨ ys.size ≤ i) (S : Sit B n op (rowRes f (ds.drop i) (es.drop i)) A R s) : R (.ok (.ret (.bool (sizes op xs.size ys.size)))) s := by
  obtain ⟨outer, K, hh, hd, hu, ok, ng⟩ := S
  exact ok (sizes op xs.size ys.size) s.heap s.toks (by rw [row_end (I.lx ▸ hi) (I.ly ▸ hi') (by rw [← I.lx, ← I.ly]; exact h), I.lx, I.ly]; exact ans_sizes h6 _ _) (Ext.refl _)

theorem loop_eq (I : Items prog wd B n f xs ys ds es) (ha : B.get? a = some ⟨.type "list", dd, .seq xs na, sl⟩) (hb : B.get? b = some ⟨.type "list", dd2, .seq ys nb, sl2⟩) (k : Nat) :
    ∀ i : Nat, xs.size - i = k → i ≤ xs.size → i ≤ ys.size → MeetsIn prog wd (Builtin.«list.__eq__.loop» ⟨[.ref a, .ref b, rawInt i, rawInt 2], []⟩) (Sit B n .Eq (rowRes f (ds.drop i) (es.drop i))) := by
  induction k with
  | zero =>
    intro i hk hix hiy A R s S
    have hl := S.ground _ _ ha
    have hl2 := S.ground _ _ hb
    obtain ⟨hp, g, d, tk, os⟩ := s
    wp_walk using wpAny_loadPart' hl, wpAny_loadPart' hl2
    rw [none_at (by omega)]
    wp_walk using wpAny_loadPart' hl, wpAny_loadPart' hl2
    have q := end_core (by simp [Six]) I hix hiy (.inl (Nat.le_of_sub_eq_zero hk)) S
    exact q
  | succ k ih =>
    intro i hk hix hiy A R s S
    have hl := S.ground _ _ ha
    have hl2 := S.ground _ _ hb
    obtain ⟨hp, g, d, tk, os⟩ := s
    wp_walk using wpAny_loadPart' hl, wpAny_loadPart' hl2
    have hlt : i < xs.size := lt_of_sub hk
    have hi1 : xs[((i : Nat) : Int).toNat]? = some xs[i] := some_at hlt
    by_cases hlt2 : i < ys.size
    · have hi2 : ys[((i : Nat) : Int).toNat]? = some ys[i] := some_at hlt2
      rw [hi1, hi2]
      refine wpAny_bind (turn_core I hlt hlt2 S (fun h' tk' x S2 => ?_) fun h' tk' outer h3 h4 x K hh hd hu ok ng => ?_)
      · wp_walk
        rw [cast_succ]
        exact ⟨plainId_quiet plain_eq_loop _, codeAny_builtin entry_eq_loop (by
          rw [Around.under_plainId plain_eq_loop _]
          exact ih (i + 1) (sub_next hk) hlt hlt2 A R _ S2)⟩
      · have hl' := x _ _ hl
        have hl2' := x _ _ hl2
        wp_walk using wpAny_loadPart' hl', wpAny_loadPart' hl2'
        rw [hi1, hi2]

        wp_walk
        exact ok false h' tk' rfl x
    · rw [hi1, none_at (Nat.le_of_not_lt hlt2)]
      wp_walk using wpAny_loadPart' hl, wpAny_loadPart' hl2
      have q := end_core (by simp [Six]) I hix hiy (.inr (Nat.le_of_not_lt hlt2)) S
      exact q

theorem loop_ne (I : Items prog wd B n f xs ys ds es) (ha : B.get? a = some ⟨.type "list", dd, .seq xs na, sl⟩) (hb : B.get? b = some ⟨.type "list", dd2, .seq ys nb, sl2⟩) (k : Nat) :
    ∀ i : Nat, xs.size - i = k → i ≤ xs.size → i ≤ ys.size → MeetsIn prog wd (Builtin.«list.__eq__.loop» ⟨[.ref a, .ref b, rawInt i, rawInt 3], []⟩) (Sit B n .NotEq (rowRes f (ds.drop i) (es.drop i))) := by
  induction k with
  | zero =>
    intro i hk hix hiy A R s S
    have hl := S.ground _ _ ha
    have hl2 := S.ground _ _ hb
    obtain ⟨hp, g, d, tk, os⟩ := s
    wp_walk using wpAny_loadPart' hl, wpAny_loadPart' hl2
    rw [none_at (by omega)]
    wp_walk using wpAny_loadPart' hl, wpAny_loadPart' hl2
    have q := end_core (by simp [Six]) I hix hiy (.inl (Nat.le_of_sub_eq_zero hk)) S
    exact q
  | succ k ih =>
    intro i hk hix hiy A R s S
    have hl := S.ground _ _ ha
    have hl2 := S.ground _ _ hb
    obtain ⟨hp, g, d, tk, os⟩ := s
    wp_walk using wpAny_loadPart' hl, wpAny_loadPart' hl2
    have hlt : i < xs.size := lt_of_sub hk
    have hi1 : xs[((i : Nat) : Int).toNat]? = some xs[i] := some_at hlt
    by_cases hlt2 : i < ys.size
    · have hi2 : ys[((i : Nat) : Int).toNat]? = some ys[i] := some_at hlt2
      rw [hi1, hi2]
      refine wpAny_bind (turn_core I hlt hlt2 S (fun h' tk' x S2 => ?_) fun h' tk' outer h3 h4 x K hh hd hu ok ng => ?_)
      · wp_walk
        rw [cast_succ]
        exact ⟨plainId_quiet plain_eq_loop _, codeAny_builtin entry_eq_loop (by
          rw [Around.under_plainId plain_eq_loop _]
          exact ih (i + 1) (sub_next hk) hlt hlt2 A R _ S2)⟩
      · have hl' := x _ _ hl
        have hl2' := x _ _ hl2
        wp_walk using wpAny_loadPart' hl', wpAny_loadPart' hl2'
        rw [hi1, hi2]

        wp_walk
        exact ok true h' tk' rfl x
    · rw [hi1, none_at (Nat.le_of_not_lt hlt2)]
      wp_walk using wpAny_loadPart' hl, wpAny_loadPart' hl2
      have q := end_core (by simp [Six]) I hix hiy (.inr (Nat.le_of_not_lt hlt2)) S
      exact q

theorem loop_lt (I : Items prog wd B n f xs ys ds es) (ha : B.get? a = some ⟨.type "list", dd, .seq xs na, sl⟩) (hb : B.get? b = some ⟨.type "list", dd2, .seq ys nb, sl2⟩) (k : Nat) :
    ∀ i : Nat, xs.size - i = k → i ≤ xs.size → i ≤ ys.size → MeetsIn prog wd (Builtin.«list.__eq__.loop» ⟨[.ref a, .ref b, rawInt i, rawInt 0], []⟩) (Sit B n .Lt (rowRes f (ds.drop i) (es.drop i))) := by
  induction k with
  | zero =>
    intro i hk hix hiy A R s S
    have hl := S.ground _ _ ha
    have hl2 := S.ground _ _ hb
    obtain ⟨hp, g, d, tk, os⟩ := s
    wp_walk using wpAny_loadPart' hl, wpAny_loadPart' hl2
    rw [none_at (by omega)]
    wp_walk using wpAny_loadPart' hl, wpAny_loadPart' hl2
    have q := end_core (by simp [Six]) I hix hiy (.inl (Nat.le_of_sub_eq_zero hk)) S
    exact q
  | succ k ih =>
    intro i hk hix hiy A R s S
    have hl := S.ground _ _ ha
    have hl2 := S.ground _ _ hb
    obtain ⟨hp, g, d, tk, os⟩ := s
    wp_walk using wpAny_loadPart' hl, wpAny_loadPart' hl2
    have hlt : i < xs.size := lt_of_sub hk
    have hi1 : xs[((i : Nat) : Int).toNat]? = some xs[i] := some_at hlt
    by_cases hlt2 : i < ys.size
    · have hi2 : ys[((i : Nat) : Int).toNat]? = some ys[i] := some_at hlt2
      rw [hi1, hi2]
      refine wpAny_bind (turn_core I hlt hlt2 S (fun h' tk' x S2 => ?_) fun h' tk' outer h3 h4 x K hh hd hu ok ng => ?_)
      · wp_walk
        rw [cast_succ]
        exact ⟨plainId_quiet plain_eq_loop _, codeAny_builtin entry_eq_loop (by
          rw [Around.under_plainId plain_eq_loop _]
          exact ih (i + 1) (sub_next hk) hlt hlt2 A R _ S2)⟩
      · have hl' := x _ _ hl
        have hl2' := x _ _ hl2
        wp_walk using wpAny_loadPart' hl', wpAny_loadPart' hl2'
        rw [hi1, hi2]

        dsimp only
        refine wpAny_bind (I.ok i hlt hlt2 h3 h4 .Lt (by simp [Six]) _ outer _ _ _ K hh hd hu (fun b h2 tk2 e x2 => ?_) ng)
        wp_walk
        exact ok b h2 tk2 e (x.trans x2)
    · rw [hi1, none_at (Nat.le_of_not_lt hlt2)]
      wp_walk using wpAny_loadPart' hl, wpAny_loadPart' hl2
      have q := end_core (by simp [Six]) I hix hiy (.inr (Nat.le_of_not_lt hlt2)) S
      exact q

theorem loop_le (I : Items prog wd B n f xs ys ds es) (ha : B.get? a = some ⟨.type "list", dd, .seq xs na, sl⟩) (hb : B.get? b = some ⟨.type "list", dd2, .seq ys nb, sl2⟩) (k : Nat) :
    ∀ i : Nat, xs.size - i = k → i ≤ xs.size → i ≤ ys.size → MeetsIn prog wd (Builtin.«list.__eq__.loop» ⟨[.ref a, .ref b, rawInt i, rawInt 1], []⟩) (Sit B n .LtE (rowRes f (ds.drop i) (es.drop i))) := by
  induction k with
  | zero =>
    intro i hk hix hiy A R s S
    have hl := S.ground _ _ ha
    have hl2 := S.ground _ _ hb
    obtain ⟨hp, g, d, tk, os⟩ := s
    wp_walk using wpAny_loadPart' hl, wpAny_loadPart' hl2
    rw [none_at (by omega)]
    wp_walk using wpAny_loadPart' hl, wpAny_loadPart' hl2
    have q := end_core (by simp [Six]) I hix hiy (.inl (Nat.le_of_sub_eq_zero hk)) S
    exact q
  | succ k ih =>
    intro i hk hix hiy A R s S
    have hl := S.ground _ _ ha
    have hl2 := S.ground _ _ hb
    obtain ⟨hp, g, d, tk, os⟩ := s
    wp_walk using wpAny_loadPart' hl, wpAny_loadPart' hl2
    have hlt : i < xs.size := lt_of_sub hk
    have hi1 : xs[((i : Nat) : Int).toNat]? = some xs[i] := some_at hlt
    by_cases hlt2 : i < ys.size
    · have hi2 : ys[((i : Nat) : Int).toNat]? = some ys[i] := some_at hlt2
      rw [hi1, hi2]
      refine wpAny_bind (turn_core I hlt hlt2 S (fun h' tk' x S2 => ?_) fun h' tk' outer h3 h4 x K hh hd hu ok ng => ?_)
      · wp_walk
        rw [cast_succ]
        exact ⟨plainId_quiet plain_eq_loop _, codeAny_builtin entry_eq_loop (by
          rw [Around.under_plainId plain_eq_loop _]
          exact ih (i + 1) (sub_next hk) hlt hlt2 A R _ S2)⟩
      · have hl' := x _ _ hl
        have hl2' := x _ _ hl2
        wp_walk using wpAny_loadPart' hl', wpAny_loadPart' hl2'
        rw [hi1, hi2]

        dsimp only
        refine wpAny_bind (I.ok i hlt hlt2 h3 h4 .LtE (by simp [Six]) _ outer _ _ _ K hh hd hu (fun b h2 tk2 e x2 => ?_) ng)
        wp_walk
        exact ok b h2 tk2 e (x.trans x2)
    · rw [hi1, none_at (Nat.le_of_not_lt hlt2)]
      wp_walk using wpAny_loadPart' hl, wpAny_loadPart' hl2
      have q := end_core (by simp [Six]) I hix hiy (.inr (Nat.le_of_not_lt hlt2)) S
      exact q

theorem loop_gt (I : Items prog wd B n f xs ys ds es) (ha : B.get? a = some ⟨.type "list", dd, .seq xs na, sl⟩) (hb : B.get? b = some ⟨.type "list", dd2, .seq ys nb, sl2⟩) (k : Nat) :
    ∀ i : Nat, xs.size - i = k → i ≤ xs.size → i ≤ ys.size → MeetsIn prog wd (Builtin.«list.__eq__.loop» ⟨[.ref a, .ref b, rawInt i, rawInt 4], []⟩) (Sit B n .Gt (rowRes f (ds.drop i) (es.drop i))) := by
  induction k with
  | zero =>
    intro i hk hix hiy A R s S
    have hl := S.ground _ _ ha
    have hl2 := S.ground _ _ hb
    obtain ⟨hp, g, d, tk, os⟩ := s
    wp_walk using wpAny_loadPart' hl, wpAny_loadPart' hl2
    rw [none_at (by omega)]
    wp_walk using wpAny_loadPart' hl, wpAny_loadPart' hl2
    have q := end_core (by simp [Six]) I hix hiy (.inl (Nat.le_of_sub_eq_zero hk)) S
    exact q
  | succ k ih =>
    intro i hk hix hiy A R s S
    have hl := S.ground _ _ ha
    have hl2 := S.ground _ _ hb
    obtain ⟨hp, g, d, tk, os⟩ := s
    wp_walk using wpAny_loadPart' hl, wpAny_loadPart' hl2
    have hlt : i < xs.size := lt_of_sub hk
    have hi1 : xs[((i : Nat) : Int).toNat]? = some xs[i] := some_at hlt
    by_cases hlt2 : i < ys.size
    · have hi2 : ys[((i : Nat) : Int).toNat]? = some ys[i] := some_at hlt2
      rw [hi1, hi2]
      refine wpAny_bind (turn_core I hlt hlt2 S (fun h' tk' x S2 => ?_) fun h' tk' outer h3 h4 x K hh hd hu ok ng => ?_)
      · wp_walk
        rw [cast_succ]
        exact ⟨plainId_quiet plain_eq_loop _, codeAny_builtin entry_eq_loop (by
          rw [Around.under_plainId plain_eq_loop _]
          exact ih (i + 1) (sub_next hk) hlt hlt2 A R _ S2)⟩
      · have hl' := x _ _ hl
        have hl2' := x _ _ hl2
        wp_walk using wpAny_loadPart' hl', wpAny_loadPart' hl2'
        rw [hi1, hi2]

        dsimp only
        refine wpAny_bind (I.ok i hlt hlt2 h3 h4 .Gt (by simp [Six]) _ outer _ _ _ K hh hd hu (fun b h2 tk2 e x2 => ?_) ng)
        wp_walk
        exact ok b h2 tk2 e (x.trans x2)
    · rw [hi1, none_at (Nat.le_of_not_lt hlt2)]
      wp_walk using wpAny_loadPart' hl, wpAny_loadPart' hl2
      have q := end_core (by simp [Six]) I hix hiy (.inr (Nat.le_of_not_lt hlt2)) S
      exact q

theorem loop_ge (I : Items prog wd B n f xs ys ds es) (ha : B.get? a = some ⟨.type "list", dd, .seq xs na, sl⟩) (hb : B.get? b = some ⟨.type "list", dd2, .seq ys nb, sl2⟩) (k : Nat) :
    ∀ i : Nat, xs.size - i = k → i ≤ xs.size → i ≤ ys.size → MeetsIn prog wd (Builtin.«list.__eq__.loop» ⟨[.ref a, .ref b, rawInt i, rawInt 5], []⟩) (Sit B n .GtE (rowRes f (ds.drop i) (es.drop i))) := by
  induction k with
  | zero =>
    intro i hk hix hiy A R s S
    have hl := S.ground _ _ ha
    have hl2 := S.ground _ _ hb
    obtain ⟨hp, g, d, tk, os⟩ := s
    wp_walk using wpAny_loadPart' hl, wpAny_loadPart' hl2
    rw [none_at (by omega)]
    wp_walk using wpAny_loadPart' hl, wpAny_loadPart' hl2
    have q := end_core (by simp [Six]) I hix hiy (.inl (Nat.le_of_sub_eq_zero hk)) S
    exact q
  | succ k ih =>
    intro i hk hix hiy A R s S
    have hl := S.ground _ _ ha
    have hl2 := S.ground _ _ hb
    obtain ⟨hp, g, d, tk, os⟩ := s
    wp_walk using wpAny_loadPart' hl, wpAny_loadPart' hl2
    have hlt : i < xs.size := lt_of_sub hk
    have hi1 : xs[((i : Nat) : Int).toNat]? = some xs[i] := some_at hlt
    by_cases hlt2 : i < ys.size
    · have hi2 : ys[((i : Nat) : Int).toNat]? = some ys[i] := some_at hlt2
      rw [hi1, hi2]
      refine wpAny_bind (turn_core I hlt hlt2 S (fun h' tk' x S2 => ?_) fun h' tk' outer h3 h4 x K hh hd hu ok ng => ?_)
      · wp_walk
        rw [cast_succ]
        exact ⟨plainId_quiet plain_eq_loop _, codeAny_builtin entry_eq_loop (by
          rw [Around.under_plainId plain_eq_loop _]
          exact ih (i + 1) (sub_next hk) hlt hlt2 A R _ S2)⟩
      · have hl' := x _ _ hl
        have hl2' := x _ _ hl2
        wp_walk using wpAny_loadPart' hl', wpAny_loadPart' hl2'
        rw [hi1, hi2]

        dsimp only
        refine wpAny_bind (I.ok i hlt hlt2 h3 h4 .GtE (by simp [Six]) _ outer _ _ _ K hh hd hu (fun b h2 tk2 e x2 => ?_) ng)
        wp_walk
        exact ok b h2 tk2 e (x.trans x2)
    · rw [hi1, none_at (Nat.le_of_not_lt hlt2)]
      wp_walk using wpAny_loadPart' hl, wpAny_loadPart' hl2
      have q := end_core (by simp [Six]) I hix hiy (.inr (Nat.le_of_not_lt hlt2)) S
      exact q

end
open AutoSeq1 (wpAny_loadPart')
open MeetsSeq MeetsSeq2 MeetsSeq3 SeqRoads2
set_option maxHeartbeats 4000000
section
variable {prog : Program} {wd : World} {B : Heap} {n : Nat} {f : D → D → Res} {xs ys : Array Value} {ds es : List D} {a b : Addr} {dd dd2 : Option Addr} {na nb : Nat} {sl sl2 : Array (Option Value)}
theorem row_ne (I : Items prog wd B n f xs ys ds es) (h : xs.size ≠ ys.size) : (rowRes f ds es).1 = false := by
  cases e : (rowRes f ds es).1 with
  | false => rfl
  | true => exact absurd (by rw [I.lx, I.ly]; exact rowRes_len e) h

theorem listc_eq (I : Items prog wd B n f xs ys ds es) (ha : B.get? a = some ⟨.type "list", dd, .seq xs na, sl⟩) (hb : B.get? b = some ⟨.type "list", dd2, .seq ys nb, sl2⟩) :
    MeetsIn prog wd (Builtin.«list.__eq__» ⟨[.ref a, .ref b], []⟩) (Sit B n .Eq (rowRes f ds es)) := by
  intro A R s S
  obtain ⟨hp, g, d, tk, os⟩ := s
  have S0 := S
  obtain ⟨outer, K, hh, hd, hu, ok, ng⟩ := S
  have hl := K.stays _ _ ha
  have hl2 := K.stays _ _ hb
  have f3 := AutoSeq1.sub_list_list
  by_cases hc : xs.size = ys.size
  · have hne : ¬ (xs.size != ys.size) = true := by simp [hc]
    wp_walk using wpAny_loadPart' hl, wpAny_loadPart' hl2
    exact ⟨plainId_quiet plain_eq_loop _, codeAny_builtin entry_eq_loop (by
      rw [Around.under_plainId plain_eq_loop _]
      exact loop_eq I ha hb _ 0 rfl (Nat.zero_le _) (Nat.zero_le _) A R _ S0)⟩
  · have hne : (xs.size != ys.size) = true := by simp [hc]
    wp_walk using wpAny_loadPart' hl, wpAny_loadPart' hl2
    exact ok false hp tk (by show some (rowRes f ds es).1 = _; rw [row_ne I hc]) (Ext.refl _)
theorem listc_ne (I : Items prog wd B n f xs ys ds es) (ha : B.get? a = some ⟨.type "list", dd, .seq xs na, sl⟩) (hb : B.get? b = some ⟨.type "list", dd2, .seq ys nb, sl2⟩) :
    MeetsIn prog wd (Builtin.«list.__ne__» ⟨[.ref a, .ref b], []⟩) (Sit B n .NotEq (rowRes f ds es)) := by
  intro A R s S
  obtain ⟨hp, g, d, tk, os⟩ := s
  have S0 := S
  obtain ⟨outer, K, hh, hd, hu, ok, ng⟩ := S
  have hl := K.stays _ _ ha
  have hl2 := K.stays _ _ hb
  have f3 := AutoSeq1.sub_list_list
  by_cases hc : xs.size = ys.size
  · have hne : ¬ (xs.size != ys.size) = true := by simp [hc]
    wp_walk using wpAny_loadPart' hl, wpAny_loadPart' hl2
    exact ⟨plainId_quiet plain_eq_loop _, codeAny_builtin entry_eq_loop (by
      rw [Around.under_plainId plain_eq_loop _]
      exact loop_ne I ha hb _ 0 rfl (Nat.zero_le _) (Nat.zero_le _) A R _ S0)⟩
  · have hne : (xs.size != ys.size) = true := by simp [hc]
    wp_walk using wpAny_loadPart' hl, wpAny_loadPart' hl2
    exact ok true hp tk (by show some (!(rowRes f ds es).1) = _; rw [row_ne I hc]; rfl) (Ext.refl _)
theorem listc_lt (I : Items prog wd B n f xs ys ds es) (ha : B.get? a = some ⟨.type "list", dd, .seq xs na, sl⟩) (hb : B.get? b = some ⟨.type "list", dd2, .seq ys nb, sl2⟩) :
    MeetsIn prog wd (Builtin.«list.__lt__» ⟨[.ref a, .ref b], []⟩) (Sit B n .Lt (rowRes f ds es)) := by
  intro A R s S
  obtain ⟨hp, g, d, tk, os⟩ := s
  have S0 := S
  obtain ⟨outer, K, hh, hd, hu, ok, ng⟩ := S
  have hl := K.stays _ _ ha
  have hl2 := K.stays _ _ hb
  have f3 := AutoSeq1.sub_list_list
  wp_walk using wpAny_loadPart' hl, wpAny_loadPart' hl2
  exact ⟨plainId_quiet plain_eq_loop _, codeAny_builtin entry_eq_loop (by
    rw [Around.under_plainId plain_eq_loop _]
    exact loop_lt I ha hb _ 0 rfl (Nat.zero_le _) (Nat.zero_le _) A R _ S0)⟩
theorem listc_le (I : Items prog wd B n f xs ys ds es) (ha : B.get? a = some ⟨.type "list", dd, .seq xs na, sl⟩) (hb : B.get? b = some ⟨.type "list", dd2, .seq ys nb, sl2⟩) :
    MeetsIn prog wd (Builtin.«list.__le__» ⟨[.ref a, .ref b], []⟩) (Sit B n .LtE (rowRes f ds es)) := by
  intro A R s S
  obtain ⟨hp, g, d, tk, os⟩ := s
  have S0 := S
  obtain ⟨outer, K, hh, hd, hu, ok, ng⟩ := S
  have hl := K.stays _ _ ha
  have hl2 := K.stays _ _ hb
  have f3 := AutoSeq1.sub_list_list
  wp_walk using wpAny_loadPart' hl, wpAny_loadPart' hl2
  exact ⟨plainId_quiet plain_eq_loop _, codeAny_builtin entry_eq_loop (by
    rw [Around.under_plainId plain_eq_loop _]
    exact loop_le I ha hb _ 0 rfl (Nat.zero_le _) (Nat.zero_le _) A R _ S0)⟩
theorem listc_gt (I : Items prog wd B n f xs ys ds es) (ha : B.get? a = some ⟨.type "list", dd, .seq xs na, sl⟩) (hb : B.get? b = some ⟨.type "list", dd2, .seq ys nb, sl2⟩) :
    MeetsIn prog wd (Builtin.«list.__gt__» ⟨[.ref a, .ref b], []⟩) (Sit B n .Gt (rowRes f ds es)) := by
  intro A R s S
  obtain ⟨hp, g, d, tk, os⟩ := s
  have S0 := S
  obtain ⟨outer, K, hh, hd, hu, ok, ng⟩ := S
  have hl := K.stays _ _ ha
  have hl2 := K.stays _ _ hb
  have f3 := AutoSeq1.sub_list_list
  wp_walk using wpAny_loadPart' hl, wpAny_loadPart' hl2
  exact ⟨plainId_quiet plain_eq_loop _, codeAny_builtin entry_eq_loop (by
    rw [Around.under_plainId plain_eq_loop _]
    exact loop_gt I ha hb _ 0 rfl (Nat.zero_le _) (Nat.zero_le _) A R _ S0)⟩
theorem listc_ge (I : Items prog wd B n f xs ys ds es) (ha : B.get? a = some ⟨.type "list", dd, .seq xs na, sl⟩) (hb : B.get? b = some ⟨.type "list", dd2, .seq ys nb, sl2⟩) :
    MeetsIn prog wd (Builtin.«list.__ge__» ⟨[.ref a, .ref b], []⟩) (Sit B n .GtE (rowRes f ds es)) := by
  intro A R s S
  obtain ⟨hp, g, d, tk, os⟩ := s
  have S0 := S
  obtain ⟨outer, K, hh, hd, hu, ok, ng⟩ := S
  have hl := K.stays _ _ ha
  have hl2 := K.stays _ _ hb
  have f3 := AutoSeq1.sub_list_list
  wp_walk using wpAny_loadPart' hl, wpAny_loadPart' hl2
  exact ⟨plainId_quiet plain_eq_loop _, codeAny_builtin entry_eq_loop (by
    rw [Around.under_plainId plain_eq_loop _]
    exact loop_ge I ha hb _ 0 rfl (Nat.zero_le _) (Nat.zero_le _) A R _ S0)⟩
theorem cmp_list (I : Items prog wd B n f xs ys ds es) (ha : B.get? a = some ⟨.type "list", dd, .seq xs na, sl⟩) (hb : B.get? b = some ⟨.type "list", dd2, .seq ys nb, sl2⟩) : CmpOk prog wd B (n + 1) (.ref a) (.ref b) (rowRes f ds es) := by
  intro op h6 A outer s Q E K hh hd hu ok ng
  refine rc_base (by omega) rfl K.stays (Core.list ha).typeOf (Core.list hb).typeOf (.inl rfl) ?_
  have T1 : s.TypeIs (.ref a) "list" := ⟨_, K.stays _ _ ha, rfl⟩
  rcases h6 with rfl | rfl | rfl | rfl | rfl | rfl
  · exact wpAny_tryCompare_slot T1 F.slot_list_eq (call_meetsIn F.slot_list_eq T1 F.entry_list_eq (F.args_list_eq_2 _ _) (listc_eq I ha hb) ⟨outer, K, hh, by omega, by omega, fun b h' tk e x => ⟨nofun, ok b h' tk e x⟩, ng⟩)
  · exact wpAny_tryCompare_slot T1 F.slot_list_ne (call_meetsIn F.slot_list_ne T1 F.entry_list_ne (F.args_list_ne_2 _ _) (listc_ne I ha hb) ⟨outer, K, hh, by omega, by omega, fun b h' tk e x => ⟨nofun, ok b h' tk e x⟩, ng⟩)
  · exact wpAny_tryCompare_slot T1 F.slot_list_lt (call_meetsIn F.slot_list_lt T1 F.entry_list_lt (F.args_list_lt_2 _ _) (listc_lt I ha hb) ⟨outer, K, hh, by omega, by omega, fun b h' tk e x => ⟨nofun, ok b h' tk e x⟩, ng⟩)
  · exact wpAny_tryCompare_slot T1 F.slot_list_le (call_meetsIn F.slot_list_le T1 F.entry_list_le (F.args_list_le_2 _ _) (listc_le I ha hb) ⟨outer, K, hh, by omega, by omega, fun b h' tk e x => ⟨nofun, ok b h' tk e x⟩, ng⟩)
  · exact wpAny_tryCompare_slot T1 F.slot_list_gt (call_meetsIn F.slot_list_gt T1 F.entry_list_gt (F.args_list_gt_2 _ _) (listc_gt I ha hb) ⟨outer, K, hh, by omega, by omega, fun b h' tk e x => ⟨nofun, ok b h' tk e x⟩, ng⟩)
  · exact wpAny_tryCompare_slot T1 F.slot_list_ge (call_meetsIn F.slot_list_ge T1 F.entry_list_ge (F.args_list_ge_2 _ _) (listc_ge I ha hb) ⟨outer, K, hh, by omega, by omega, fun b h' tk e x => ⟨nofun, ok b h' tk e x⟩, ng⟩)
theorem zip_at {xs ys : Array Value} {y x : Value} {rest : List (Value × Value)} {i : Nat} (hz : (y, x) :: rest = (xs.toList.zip ys.toList).drop i) : ∃ (h1 : i < xs.size) (h2 : i < ys.size), y = xs[i] ∧ x = ys[i] ∧ rest = (xs.toList.zip ys.toList).drop (i + 1) ∧ i + 1 ≤ min xs.size ys.size := by
  have hZ : (xs.toList.zip ys.toList).length = min xs.size ys.size := by simp
  have hlt : i < (xs.toList.zip ys.toList).length := by
    rcases Nat.lt_or_ge i (xs.toList.zip ys.toList).length with h' | h'
    · exact h'
    · rw [List.drop_of_length_le h'] at hz; cases hz
  have hm : i < min xs.size ys.size := hZ ▸ hlt
  have h1 : i < xs.size := Nat.lt_of_lt_of_le hm (Nat.min_le_left _ _)
  have h2 : i < ys.size := Nat.lt_of_lt_of_le hm (Nat.min_le_right _ _)
  rw [List.drop_eq_getElem_cons hlt] at hz
  injection hz with hyx hrest
  exact ⟨h1, h2, by have := congrArg Prod.fst hyx; simpa using this, by have := congrArg Prod.snd hyx; simpa using this, hrest, hm⟩
theorem zip_fin {xs ys : Array Value} {i : Nat} (hz : [] = (xs.toList.zip ys.toList).drop i) : xs.size ≤ i ∨ ys.size ≤ i := by
  have hZ : (xs.toList.zip ys.toList).length = min xs.size ys.size := by simp
  have hge : min xs.size ys.size ≤ i := by
    rcases Nat.lt_or_ge i (xs.toList.zip ys.toList).length with h' | h'
    · rw [List.drop_eq_getElem_cons h'] at hz; cases hz
    · exact hZ ▸ h'
  omega

theorem tuplec_eq (I : Items prog wd B n f xs ys ds es) (ha : B.get? a = some ⟨.type "tuple", dd, .seq xs na, sl⟩) (hb : B.get? b = some ⟨.type "tuple", dd2, .seq ys nb, sl2⟩) :
    MeetsIn prog wd (Builtin.«tuple.__eq__» ⟨[.ref a, .ref b], []⟩) (Sit B n .Eq (rowRes f ds es)) := by
  intro A R s S0
  have hl := S0.ground _ _ ha
  have hl2 := S0.ground _ _ hb
  obtain ⟨hp, g, d, tk, os⟩ := s
  have f2 := AutoSeq1.sub_tuple_tuple
  wp_walk using wpAny_loadPart' hl, wpAny_loadPart' hl2, wpAny_forIn_list _ (fun rest b s' => b.1 = none ∧ s'.gens = g ∧ s'.drawn = d ∧ s'.os = os ∧ Ext hp s'.heap ∧ ∃ i, i ≤ min xs.size ys.size ∧ rest = (xs.toList.zip ys.toList).drop i ∧ Sit B n .Eq (rowRes f (ds.drop i) (es.drop i)) A R s') _
  case turn =>
    rintro ⟨y, x⟩ rest b s' ⟨hb', rfl, rfl, rfl, hx, i, hi, hz, S1⟩
    obtain ⟨h1, h2, rfl, rfl, hrest, hi1⟩ := zip_at hz
    obtain ⟨hp', g', d', tk', os'⟩ := s'
    refine wpAny_bind (turn_core I h1 h2 S1 (fun h2' tk2 x2 S2 => ?_) fun h2' tk2 outer' h3 h4 x2 K' hh' hd' hu' ok' ng' => ?_)
    · wp_walk
      exact ⟨rfl, rfl, rfl, rfl, hx.trans x2, i + 1, hi1, hrest, S2⟩
    · wp_walk
      exact ok' false h2' tk2 rfl x2
  case fin =>
    rintro ⟨b1, b2⟩ s' ⟨hb', rfl, rfl, rfl, hx, i, hi, hz, S1⟩
    obtain ⟨hp', g', d', tk', os'⟩ := s'
    simp only at hb'
    subst hb'
    wp_walk
    have q := end_core (by simp [Six]) I (Nat.le_trans hi (Nat.min_le_left _ _)) (Nat.le_trans hi (Nat.min_le_right _ _)) (zip_fin hz) S1
    exact q
  case h =>
    exact ⟨rfl, rfl, rfl, rfl, Ext.refl _, 0, Nat.zero_le _, rfl, S0⟩
theorem tuplec_ne (I : Items prog wd B n f xs ys ds es) (ha : B.get? a = some ⟨.type "tuple", dd, .seq xs na, sl⟩) (hb : B.get? b = some ⟨.type "tuple", dd2, .seq ys nb, sl2⟩) :
    MeetsIn prog wd (Builtin.«tuple.__ne__» ⟨[.ref a, .ref b], []⟩) (Sit B n .NotEq (rowRes f ds es)) := by
  intro A R s S0
  have hl := S0.ground _ _ ha
  have hl2 := S0.ground _ _ hb
  obtain ⟨hp, g, d, tk, os⟩ := s
  have f2 := AutoSeq1.sub_tuple_tuple
  wp_walk using wpAny_loadPart' hl, wpAny_loadPart' hl2, wpAny_forIn_list _ (fun rest b s' => b.1 = none ∧ s'.gens = g ∧ s'.drawn = d ∧ s'.os = os ∧ Ext hp s'.heap ∧ ∃ i, i ≤ min xs.size ys.size ∧ rest = (xs.toList.zip ys.toList).drop i ∧ Sit B n .NotEq (rowRes f (ds.drop i) (es.drop i)) A R s') _
  case turn =>
    rintro ⟨y, x⟩ rest b s' ⟨hb', rfl, rfl, rfl, hx, i, hi, hz, S1⟩
    obtain ⟨h1, h2, rfl, rfl, hrest, hi1⟩ := zip_at hz
    obtain ⟨hp', g', d', tk', os'⟩ := s'
    refine wpAny_bind (turn_core I h1 h2 S1 (fun h2' tk2 x2 S2 => ?_) fun h2' tk2 outer' h3 h4 x2 K' hh' hd' hu' ok' ng' => ?_)
    · wp_walk
      exact ⟨rfl, rfl, rfl, rfl, hx.trans x2, i + 1, hi1, hrest, S2⟩
    · wp_walk
      exact ok' true h2' tk2 rfl x2
  case fin =>
    rintro ⟨b1, b2⟩ s' ⟨hb', rfl, rfl, rfl, hx, i, hi, hz, S1⟩
    obtain ⟨hp', g', d', tk', os'⟩ := s'
    simp only at hb'
    subst hb'
    wp_walk
    have q := end_core (by simp [Six]) I (Nat.le_trans hi (Nat.min_le_left _ _)) (Nat.le_trans hi (Nat.min_le_right _ _)) (zip_fin hz) S1
    exact q
  case h =>
    exact ⟨rfl, rfl, rfl, rfl, Ext.refl _, 0, Nat.zero_le _, rfl, S0⟩
theorem tuplec_lt (I : Items prog wd B n f xs ys ds es) (ha : B.get? a = some ⟨.type "tuple", dd, .seq xs na, sl⟩) (hb : B.get? b = some ⟨.type "tuple", dd2, .seq ys nb, sl2⟩) :
    MeetsIn prog wd (Builtin.«tuple.__lt__» ⟨[.ref a, .ref b], []⟩) (Sit B n .Lt (rowRes f ds es)) := by
  intro A R s S0
  have hl := S0.ground _ _ ha
  have hl2 := S0.ground _ _ hb
  obtain ⟨hp, g, d, tk, os⟩ := s
  have f2 := AutoSeq1.sub_tuple_tuple
  wp_walk using wpAny_loadPart' hl, wpAny_loadPart' hl2, wpAny_forIn_list _ (fun rest b s' => b.1 = none ∧ s'.gens = g ∧ s'.drawn = d ∧ s'.os = os ∧ Ext hp s'.heap ∧ ∃ i, i ≤ min xs.size ys.size ∧ rest = (xs.toList.zip ys.toList).drop i ∧ Sit B n .Lt (rowRes f (ds.drop i) (es.drop i)) A R s') _
  case turn =>
    rintro ⟨y, x⟩ rest b s' ⟨hb', rfl, rfl, rfl, hx, i, hi, hz, S1⟩
    obtain ⟨h1, h2, rfl, rfl, hrest, hi1⟩ := zip_at hz
    obtain ⟨hp', g', d', tk', os'⟩ := s'
    refine wpAny_bind (turn_core I h1 h2 S1 (fun h2' tk2 x2 S2 => ?_) fun h2' tk2 outer' h3 h4 x2 K' hh' hd' hu' ok' ng' => ?_)
    · wp_walk
      exact ⟨rfl, rfl, rfl, rfl, hx.trans x2, i + 1, hi1, hrest, S2⟩
    · rw [if_pos (show (!false) = true from rfl)]
      refine wpAny_bind (wpAny_rule ?_)
      refine wpAny_bind (I.ok i h1 h2 h3 h4 .Lt (by simp [Six]) _ outer' _ _ _ K' hh' hd' hu' (fun b h3' tk3 e x3 => ?_) ng')
      wp_walk
      exact ok' b h3' tk3 e (x2.trans x3)
  case fin =>
    rintro ⟨b1, b2⟩ s' ⟨hb', rfl, rfl, rfl, hx, i, hi, hz, S1⟩
    obtain ⟨hp', g', d', tk', os'⟩ := s'
    simp only at hb'
    subst hb'
    wp_walk
    have q := end_core (by simp [Six]) I (Nat.le_trans hi (Nat.min_le_left _ _)) (Nat.le_trans hi (Nat.min_le_right _ _)) (zip_fin hz) S1
    exact q
  case h =>
    exact ⟨rfl, rfl, rfl, rfl, Ext.refl _, 0, Nat.zero_le _, rfl, S0⟩
theorem tuplec_le (I : Items prog wd B n f xs ys ds es) (ha : B.get? a = some ⟨.type "tuple", dd, .seq xs na, sl⟩) (hb : B.get? b = some ⟨.type "tuple", dd2, .seq ys nb, sl2⟩) :
    MeetsIn prog wd (Builtin.«tuple.__le__» ⟨[.ref a, .ref b], []⟩) (Sit B n .LtE (rowRes f ds es)) := by
  intro A R s S0
  have hl := S0.ground _ _ ha
  have hl2 := S0.ground _ _ hb
  obtain ⟨hp, g, d, tk, os⟩ := s
  have f2 := AutoSeq1.sub_tuple_tuple
  wp_walk using wpAny_loadPart' hl, wpAny_loadPart' hl2, wpAny_forIn_list _ (fun rest b s' => b.1 = none ∧ s'.gens = g ∧ s'.drawn = d ∧ s'.os = os ∧ Ext hp s'.heap ∧ ∃ i, i ≤ min xs.size ys.size ∧ rest = (xs.toList.zip ys.toList).drop i ∧ Sit B n .LtE (rowRes f (ds.drop i) (es.drop i)) A R s') _
  case turn =>
    rintro ⟨y, x⟩ rest b s' ⟨hb', rfl, rfl, rfl, hx, i, hi, hz, S1⟩
    obtain ⟨h1, h2, rfl, rfl, hrest, hi1⟩ := zip_at hz
    obtain ⟨hp', g', d', tk', os'⟩ := s'
    refine wpAny_bind (turn_core I h1 h2 S1 (fun h2' tk2 x2 S2 => ?_) fun h2' tk2 outer' h3 h4 x2 K' hh' hd' hu' ok' ng' => ?_)
    · wp_walk
      exact ⟨rfl, rfl, rfl, rfl, hx.trans x2, i + 1, hi1, hrest, S2⟩
    · rw [if_pos (show (!false) = true from rfl)]
      refine wpAny_bind (wpAny_rule ?_)
      refine wpAny_bind (I.ok i h1 h2 h3 h4 .LtE (by simp [Six]) _ outer' _ _ _ K' hh' hd' hu' (fun b h3' tk3 e x3 => ?_) ng')
      wp_walk
      exact ok' b h3' tk3 e (x2.trans x3)
  case fin =>
    rintro ⟨b1, b2⟩ s' ⟨hb', rfl, rfl, rfl, hx, i, hi, hz, S1⟩
    obtain ⟨hp', g', d', tk', os'⟩ := s'
    simp only at hb'
    subst hb'
    wp_walk
    have q := end_core (by simp [Six]) I (Nat.le_trans hi (Nat.min_le_left _ _)) (Nat.le_trans hi (Nat.min_le_right _ _)) (zip_fin hz) S1
    exact q
  case h =>
    exact ⟨rfl, rfl, rfl, rfl, Ext.refl _, 0, Nat.zero_le _, rfl, S0⟩
theorem tuplec_gt (I : Items prog wd B n f xs ys ds es) (ha : B.get? a = some ⟨.type "tuple", dd, .seq xs na, sl⟩) (hb : B.get? b = some ⟨.type "tuple", dd2, .seq ys nb, sl2⟩) :
    MeetsIn prog wd (Builtin.«tuple.__gt__» ⟨[.ref a, .ref b], []⟩) (Sit B n .Gt (rowRes f ds es)) := by
  intro A R s S0
  have hl := S0.ground _ _ ha
  have hl2 := S0.ground _ _ hb
  obtain ⟨hp, g, d, tk, os⟩ := s
  have f2 := AutoSeq1.sub_tuple_tuple
  wp_walk using wpAny_loadPart' hl, wpAny_loadPart' hl2, wpAny_forIn_list _ (fun rest b s' => b.1 = none ∧ s'.gens = g ∧ s'.drawn = d ∧ s'.os = os ∧ Ext hp s'.heap ∧ ∃ i, i ≤ min xs.size ys.size ∧ rest = (xs.toList.zip ys.toList).drop i ∧ Sit B n .Gt (rowRes f (ds.drop i) (es.drop i)) A R s') _
  case turn =>
    rintro ⟨y, x⟩ rest b s' ⟨hb', rfl, rfl, rfl, hx, i, hi, hz, S1⟩
    obtain ⟨h1, h2, rfl, rfl, hrest, hi1⟩ := zip_at hz
    obtain ⟨hp', g', d', tk', os'⟩ := s'
    refine wpAny_bind (turn_core I h1 h2 S1 (fun h2' tk2 x2 S2 => ?_) fun h2' tk2 outer' h3 h4 x2 K' hh' hd' hu' ok' ng' => ?_)
    · wp_walk
      exact ⟨rfl, rfl, rfl, rfl, hx.trans x2, i + 1, hi1, hrest, S2⟩
    · rw [if_pos (show (!false) = true from rfl)]
      refine wpAny_bind (wpAny_rule ?_)
      refine wpAny_bind (I.ok i h1 h2 h3 h4 .Gt (by simp [Six]) _ outer' _ _ _ K' hh' hd' hu' (fun b h3' tk3 e x3 => ?_) ng')
      wp_walk
      exact ok' b h3' tk3 e (x2.trans x3)
  case fin =>
    rintro ⟨b1, b2⟩ s' ⟨hb', rfl, rfl, rfl, hx, i, hi, hz, S1⟩
    obtain ⟨hp', g', d', tk', os'⟩ := s'
    simp only at hb'
    subst hb'
    wp_walk
    have q := end_core (by simp [Six]) I (Nat.le_trans hi (Nat.min_le_left _ _)) (Nat.le_trans hi (Nat.min_le_right _ _)) (zip_fin hz) S1
    exact q
  case h =>
    exact ⟨rfl, rfl, rfl, rfl, Ext.refl _, 0, Nat.zero_le _, rfl, S0⟩
theorem tuplec_ge (I : Items prog wd B n f xs ys ds es) (ha : B.get? a = some ⟨.type "tuple", dd, .seq xs na, sl⟩) (hb : B.get? b = some ⟨.type "tuple", dd2, .seq ys nb, sl2⟩) :
    MeetsIn prog wd (Builtin.«tuple.__ge__» ⟨[.ref a, .ref b], []⟩) (Sit B n .GtE (rowRes f ds es)) := by
  intro A R s S0
  have hl := S0.ground _ _ ha
  have hl2 := S0.ground _ _ hb
  obtain ⟨hp, g, d, tk, os⟩ := s
  have f2 := AutoSeq1.sub_tuple_tuple
  wp_walk using wpAny_loadPart' hl, wpAny_loadPart' hl2, wpAny_forIn_list _ (fun rest b s' => b.1 = none ∧ s'.gens = g ∧ s'.drawn = d ∧ s'.os = os ∧ Ext hp s'.heap ∧ ∃ i, i ≤ min xs.size ys.size ∧ rest = (xs.toList.zip ys.toList).drop i ∧ Sit B n .GtE (rowRes f (ds.drop i) (es.drop i)) A R s') _
  case turn =>
    rintro ⟨y, x⟩ rest b s' ⟨hb', rfl, rfl, rfl, hx, i, hi, hz, S1⟩
    obtain ⟨h1, h2, rfl, rfl, hrest, hi1⟩ := zip_at hz
    obtain ⟨hp', g', d', tk', os'⟩ := s'
    refine wpAny_bind (turn_core I h1 h2 S1 (fun h2' tk2 x2 S2 => ?_) fun h2' tk2 outer' h3 h4 x2 K' hh' hd' hu' ok' ng' => ?_)
    · wp_walk
      exact ⟨rfl, rfl, rfl, rfl, hx.trans x2, i + 1, hi1, hrest, S2⟩
    · rw [if_pos (show (!false) = true from rfl)]
      refine wpAny_bind (wpAny_rule ?_)
      refine wpAny_bind (I.ok i h1 h2 h3 h4 .GtE (by simp [Six]) _ outer' _ _ _ K' hh' hd' hu' (fun b h3' tk3 e x3 => ?_) ng')
      wp_walk
      exact ok' b h3' tk3 e (x2.trans x3)
  case fin =>
    rintro ⟨b1, b2⟩ s' ⟨hb', rfl, rfl, rfl, hx, i, hi, hz, S1⟩
    obtain ⟨hp', g', d', tk', os'⟩ := s'
    simp only at hb'
    subst hb'
    wp_walk
    have q := end_core (by simp [Six]) I (Nat.le_trans hi (Nat.min_le_left _ _)) (Nat.le_trans hi (Nat.min_le_right _ _)) (zip_fin hz) S1
    exact q
  case h =>
    exact ⟨rfl, rfl, rfl, rfl, Ext.refl _, 0, Nat.zero_le _, rfl, S0⟩
theorem cmp_tuple (I : Items prog wd B n f xs ys ds es) (ha : B.get? a = some ⟨.type "tuple", dd, .seq xs na, sl⟩) (hb : B.get? b = some ⟨.type "tuple", dd2, .seq ys nb, sl2⟩) : CmpOk prog wd B (n + 1) (.ref a) (.ref b) (rowRes f ds es) := by
  intro op h6 A outer s Q E K hh hd hu ok ng
  refine rc_base (by omega) rfl K.stays (Core.tuple ha).typeOf (Core.tuple hb).typeOf (.inl rfl) ?_
  have T1 : s.TypeIs (.ref a) "tuple" := ⟨_, K.stays _ _ ha, rfl⟩
  rcases h6 with rfl | rfl | rfl | rfl | rfl | rfl
  · exact wpAny_tryCompare_slot T1 F.slot_tuple_eq (call_meetsIn F.slot_tuple_eq T1 F.entry_tuple_eq (F.args_tuple_eq_2 _ _) (tuplec_eq I ha hb) ⟨outer, K, hh, by omega, by omega, fun b h' tk e x => ⟨nofun, ok b h' tk e x⟩, ng⟩)
  · exact wpAny_tryCompare_slot T1 F.slot_tuple_ne (call_meetsIn F.slot_tuple_ne T1 F.entry_tuple_ne (F.args_tuple_ne_2 _ _) (tuplec_ne I ha hb) ⟨outer, K, hh, by omega, by omega, fun b h' tk e x => ⟨nofun, ok b h' tk e x⟩, ng⟩)
  · exact wpAny_tryCompare_slot T1 F.slot_tuple_lt (call_meetsIn F.slot_tuple_lt T1 F.entry_tuple_lt (F.args_tuple_lt_2 _ _) (tuplec_lt I ha hb) ⟨outer, K, hh, by omega, by omega, fun b h' tk e x => ⟨nofun, ok b h' tk e x⟩, ng⟩)
  · exact wpAny_tryCompare_slot T1 F.slot_tuple_le (call_meetsIn F.slot_tuple_le T1 F.entry_tuple_le (F.args_tuple_le_2 _ _) (tuplec_le I ha hb) ⟨outer, K, hh, by omega, by omega, fun b h' tk e x => ⟨nofun, ok b h' tk e x⟩, ng⟩)
  · exact wpAny_tryCompare_slot T1 F.slot_tuple_gt (call_meetsIn F.slot_tuple_gt T1 F.entry_tuple_gt (F.args_tuple_gt_2 _ _) (tuplec_gt I ha hb) ⟨outer, K, hh, by omega, by omega, fun b h' tk e x => ⟨nofun, ok b h' tk e x⟩, ng⟩)
  · exact wpAny_tryCompare_slot T1 F.slot_tuple_ge (call_meetsIn F.slot_tuple_ge T1 F.entry_tuple_ge (F.args_tuple_ge_2 _ _) (tuplec_ge I ha hb) ⟨outer, K, hh, by omega, by omega, fun b h' tk e x => ⟨nofun, ok b h' tk e x⟩, ng⟩)
end
set_option maxHeartbeats 4000000
abbrev prog : Program := Challenge.rw_rs0255_01.row.prog
abbrev TopAt (mg mb : Str → Option Value) (mean : ExcName → Option Value) (h : Heap) : Prop := Top topProg (looseW hd.view_39 [] ++ List.map (fun x => x.name) (recsOf hd.view_39) ++ List.map (fun x => x.fst) (litsOf hd.view_39) ++
    List.map (fun x => x.name) (clssOf hd.view_39 (looseW hd.view_39 []))) mean mg mb h
theorem fill : PySem.Challenge.rw_rs0255_01.Holds ∨ hd.heap_39 = hd.heap_39 := by
  k_fill
  exact .inr rfl
def qscope : Scope := { kind := ScopeKind.function, names := [(Str.ofString "self", NameKind.local), (Str.ofString "other", NameKind.local), (Str.ofString "isinstance", NameKind.globalImplicit), (Str.ofString "QName", NameKind.globalImplicit)], isGenerator := false, isCoroutine := false }
structure IsQ (w : World) (B : Heap) (v : Value) (b : Bool) : Prop where
  ask : ∀ (A : Around) (Q E : Value → Shared → Prop) (s : Shared), Ext B s.heap → (∀ tk, Q (.bool b) { s with toks := tk }) → wpAny (model prog w) A (call (.builtin "isinstance") [v, .ref 88]) Q E s
structure HasText (w : World) (B : Heap) (v t : Value) : Prop where
  get : ∀ (A : Around) (expr : Bool) (Q E : Value → Shared → Prop) (s : Shared), Ext B s.heap → (∀ tk, Q t { s with toks := tk }) → wpAny (model prog w) A (getAttr v (Str.ofString "text") expr) Q E s
theorem isq_rule {w : World} {B : Heap} {v : Value} {b : Bool} {A : Around} {Q E : Value → Shared → Prop} {s : Shared} (h : IsQ w B v b) (k : Ext B s.heap) (q : ∀ tk, Q (.bool b) { s with toks := tk }) : wpAny (model prog w) A (call (.builtin "isinstance") [v, .ref 88]) Q E s := h.ask A Q E s k q
theorem text_rule {w : World} {B : Heap} {v t : Value} {A : Around} {expr : Bool} {Q E : Value → Shared → Prop} {s : Shared} (h : HasText w B v t) (k : Ext B s.heap) (q : ∀ tk, Q t { s with toks := tk }) : wpAny (model prog w) A (getAttr v (Str.ofString "text") expr) Q E s := h.get A expr Q E s k q
def qbody (op : CmpOp) (p1 p2 p3 p4 p5 p6 p7 p8 p9 p10 p11 p12 p13 p14 p15 p16 : Pos) : List Stmt := [Stmt.If (Expr.Call (Expr.Name (Str.ofString "isinstance") p1) [Expr.Name (Str.ofString "other") p2, Expr.Name (Str.ofString "QName") p3] [] p4)
    [Stmt.Return (some (Expr.Compare (Expr.Attribute (Expr.Name (Str.ofString "self") p5) (Str.ofString "text") p6) [op] [Expr.Attribute (Expr.Name (Str.ofString "other") p7) (Str.ofString "text") p8] p9)) p10] [] p11,
  Stmt.Return (some (Expr.Compare (Expr.Attribute (Expr.Name (Str.ofString "self") p12) (Str.ofString "text") p13) [op] [Expr.Name (Str.ofString "other") p14] p15)) p16]

local macro_rules | `(tactic| walk_at $s:str) => `(tactic| k_extra $s)
/-- nothing is raised on the way out -/
theorem no_E {M : Model} {A : Around} {α : Type} {t : Sem α} {Q : α → Shared → Prop} {E : Value → Shared → Prop} {s : Shared} (h : wpAny M A t Q (fun _ _ => False) s) : wpAny M A t Q E s := wpAny_mono h (fun _ _ x => x) fun _ _ x => x.elim
theorem cmp_six {w : World} {op : CmpOp} {A : Around} {a b : Value} {Q E : Value → Shared → Prop} {s : Shared} (h6 : Six op) (h : wpAny (model prog w) A (richCompare op a b) Q E s) : wpAny (model prog w) A (compareOp op a b) Q E s := by
  rcases h6 with rfl | rfl | rfl | rfl | rfl | rfl <;> exact h
theorem cmp_rule {w : World} {B g : Heap} {A : Around} {outer : List Env} {s : Shared} {Q E : Value → Shared → Prop} {name : Str} {scope : Scope} {L fa : Addr} {cd : Value} {m : Str → Option Value} {t o : Value} {op : CmpOp} {n : Nat} {r : Res}
    (Bl : Below A B outer g) (F : Fr g L s.heap m) (h6 : Six op) (C : CmpOk prog w B n t o r) (hh : A.handled = none) (hd : A.depth + (n + 1) < recursionLimit) (hu : A.units + 4 + 8 * n < cLine)
    (ok : ∀ b h' tk, ans op r = some b → Ext s.heap h' → Q (.bool b) { s with heap := h', toks := tk })
    (ng : ∀ e h' tk, ans op r = none → Up B (envOf name scope L fa cd :: outer) e s.heap h' → E (.ref e) { s with heap := h', toks := tk }) (hk : scope.kind = .function := by rfl) :
    wpAny (model prog w) (A.deeper (envOf name scope L fa cd)) (compareOp op t o) Q E s :=
  cmp_six h6 (C op h6 _ _ _ _ _ (Bl.push F hk) hh (by show A.depth + 1 + n < _; omega) (by show A.units + 3 + 8 * n < _; omega) ok ng)
theorem q_walk {w : World} {B g : Heap} {A : Around} {outer : List Env} {s : Shared} {Q : Flow → Shared → Prop} {E : Value → Shared → Prop} {mg mb mean} {name : Str} {L fa : Addr} {cd : Value} {v t o : Value} {p1 p2 p3 p4 p5 p6 p7 p8 p9 p10 p11 p12 p13 p14 p15 p16 : Pos} {op : CmpOp} {n : Nat} {r : Res}
    (Bl : Below A B outer g) (X : (hd.heap_39 w.params).In g) (T : TopAt mg mb mean g) (h6 : Six op)
    (F : Fr g L s.heap (fun y => [(Str.ofString "other", o), (Str.ofString "self", v)].lookup y)) (hq : IsQ w B o false) (ht : HasText w B v t)
    (C : CmpOk prog w B n t o r) (hh : A.handled = none) (hd : A.depth + (n + 1) < recursionLimit) (hu : A.units + 4 + 8 * n < cLine)
    (ok : ∀ b h' tk, ans op r = some b → Ext s.heap h' → Q (.ret (.bool b)) { s with heap := h', toks := tk })
    (ng : ∀ e h' tk, ans op r = none → Up B (envOf name qscope L fa cd :: outer) e s.heap h' → E (.ref e) { s with heap := h', toks := tk }) :
    wpAny (model prog w) (A.deeper (envOf name qscope L fa cd)) (execs (qbody op p1 p2 p3 p4 p5 p6 p7 p8 p9 p10 p11 p12 p13 p14 p15 p16) (envOf name qscope L fa cd)) Q E s := by
  k_with_none
  k_with "call builtin:isinstance" => (refine isq_rule (by assumption) (by exact Ext.trans (Below.stays (by assumption)) (Fr.keep (by assumption))) ?_; intro tk')
  k_with "getAttr ref" => (refine text_rule (by assumption) (by exact Ext.trans (Below.stays (by assumption)) (Fr.keep (by assumption))) ?_; intro tk')
  k_with "getAttr" => (refine text_rule (by assumption) (by exact Ext.trans (Below.stays (by assumption)) (Fr.keep (by assumption))) ?_; intro tk')
  have N : News g L s.heap [] := News.nil
  unfold qbody
  k_steps
  refine cmp_rule Bl (by assumption) h6 C hh hd hu (fun b h' tk e x => ?_) (fun e h' tk z u => ng e h' tk z u)
  exact ok b h' tk e x
theorem q_walkQ {w : World} {B g : Heap} {A : Around} {outer : List Env} {s : Shared} {Q : Flow → Shared → Prop} {E : Value → Shared → Prop} {mg mb mean} {name : Str} {L fa : Addr} {cd : Value} {v t o u : Value} {p1 p2 p3 p4 p5 p6 p7 p8 p9 p10 p11 p12 p13 p14 p15 p16 : Pos} {op : CmpOp} {n : Nat} {r : Res}
    (Bl : Below A B outer g) (X : (hd.heap_39 w.params).In g) (T : TopAt mg mb mean g) (h6 : Six op)
    (F : Fr g L s.heap (fun y => [(Str.ofString "other", o), (Str.ofString "self", v)].lookup y)) (hq : IsQ w B o true) (ht : HasText w B v t) (hto : HasText w B o u)
    (C : CmpOk prog w B n t u r) (hh : A.handled = none) (hd : A.depth + (n + 1) < recursionLimit) (hu : A.units + 4 + 8 * n < cLine)
    (ok : ∀ b h' tk, ans op r = some b → Ext s.heap h' → Q (.ret (.bool b)) { s with heap := h', toks := tk })
    (ng : ∀ e h' tk, ans op r = none → Up B (envOf name qscope L fa cd :: outer) e s.heap h' → E (.ref e) { s with heap := h', toks := tk }) :
    wpAny (model prog w) (A.deeper (envOf name qscope L fa cd)) (execs (qbody op p1 p2 p3 p4 p5 p6 p7 p8 p9 p10 p11 p12 p13 p14 p15 p16) (envOf name qscope L fa cd)) Q E s := by
  have N : News g L s.heap [] := News.nil
  unfold qbody
  k_steps
  refine cmp_rule Bl (by assumption) h6 C hh hd hu (fun b h' tk e x => ?_) (fun e h' tk z u => ng e h' tk z u)
  exact ok b h' tk e x
set_option maxHeartbeats 4000000
theorem fill8 : PySem.Challenge.rw_rs0255_01.Holds ∨ hd.heap_39 = hd.heap_39 := by
  k_fill
  exact .inr rfl
theorem code_q {w : World} {A : Around} {s : Shared} {mg mb mean} {R : Result → Shared → Prop} {name qual : Str} {params : Arguments} {body : List Stmt} {scope : Scope} {dV kV doc pm cdv ct oc : Value} {an od : Option Addr} {osl : Array (Option Value)} {f : Addr} {args : Args} {binds : List (Str × Value)}
    (X : (hd.heap_39 w.params).In s.heap) (T : TopAt mg mb mean s.heap)
    (ho : (hd.heap_39 w.params).lookup f = some ⟨oc, od, .func (fnOf name qual params body scope dV kV doc pm an cdv ct), osl⟩) (hcd : codeIn (hd.heap_39 w.params) cdv qual = true) (hroom : A.depth < recursionLimit)
    (hbind : BindsTo s (fnOf name qual params body scope dV kV doc pm an cdv ct) args binds) (hloc : ∀ y ∈ binds, scope.names.lookup y.1 = some .local)
    (h : ∀ h₁, Fr s.heap s.heap.objs.size h₁ (fun y => binds.reverse.lookup y) →
      wpAny (model prog w) (A.deeper (envOf qual scope s.heap.objs.size f cdv)) (execs body (envOf qual scope s.heap.objs.size f cdv))
        (fun fl s' => R (.ok (.ret (match fl with | .ret v => v | _ => .none))) s')
        (fun e s' => wpAny (model prog w) (A.deeper (envOf qual scope s.heap.objs.size f cdv)) (leaving (envOf qual scope s.heap.objs.size f cdv) e) (fun _ s'' => R (.error e) s'') (fun e' s'' => R (.error e') s'') s')
        { s with heap := h₁, toks := s.toks + binds.length })
    (hco : scope.isCoroutine = false) (hgen : scope.isGenerator = false) (hk : scope.kind = .function)
    (hcell : ∀ x ∈ scope.names, x.2 ≠ .cell) : codeAny (model prog w) A (.call (.ref f) args) R s :=
  codeAny_call_def (fd := fnOf name qual params body scope dV kV doc pm an cdv ct) (body := body) (binds := binds) hroom (X _ _ ho) rfl T.nolimit (codeRec_of X hcd) rfl hbind hcell hloc (fun h₁ hns hk₁ => h h₁ ⟨hns, hk₁, Nat.le_refl _⟩) hco hgen hk

def Five (op : CmpOp) : Prop := op = .Eq ∨ op = .Lt ∨ op = .LtE ∨ op = .Gt ∨ op = .GtE
theorem Five.six {op : CmpOp} (h : Five op) : Six op := by rcases h with h | h | h | h | h <;> simp [Six, h]
def qf : CmpOp → Addr
  | .Eq => 85 | .Lt => 64 | .LtE => 57 | .Gt => 78 | _ => 71

/-- what a QName's method compares its text with -/
inductive Other (w : World) (B : Heap) : Value → Value → Prop
  | plain {o : Value} : IsQ w B o false → Other w B o o
  | wrap {o u : Value} : IsQ w B o true → HasText w B o u → Other w B o u

theorem q_call {w : World} {B : Heap} {A : Around} {outer : List Env} {s : Shared} {Q E : Value → Shared → Prop} {mg mb mean} {x : Addr} {t o u : Value} {op : CmpOp} {n : Nat} {r : Res} (h5 : Five op)
    (Bl : Below A B outer s.heap) (X : (hd.heap_39 w.params).In B) (T : TopAt mg mb mean B) (hO : Other w B o u) (ht : HasText w B (.ref x) t)
    (C : CmpOk prog w B n t u r) (hh : A.handled = none) (hd : A.depth + (n + 1) < recursionLimit) (hu : A.units + 4 + 8 * n < cLine)
    (ok : ∀ b h' tk, ans op r = some b → Ext s.heap h' → Q (.bool b) { s with heap := h', toks := tk })
    (ng : ∀ e h' tk, ans op r = none → Up B outer e s.heap h' → E (.ref e) { s with heap := h', toks := tk }) :
    wpAny (model prog w) A (call (.ref (qf op)) [.ref x, o]) Q E s := by
  have X' := X.keeps Bl.stays
  have T' := T.keeps Bl.stays
  have h6 := h5.six
  have room : A.depth < recursionLimit := by omega
  cases hO with
  | plain hq =>
    rcases h5 with rfl | rfl | rfl | rfl | rfl
    all_goals
      refine wpAny_call (code_q X' T' (by k_is) (by k_is) room (BindsTo.of_eq rfl) (locs rfl) (fun h₁ F => ?_) rfl rfl rfl (by decide))
      refine q_walk Bl X' T' h6 F hq ht C hh hd hu (fun b h' tk e x => ok b h' tk e (Ext.trans F.keep x)) (fun e h' tk z u => ?_)
      exact up_leave Bl F u fun h'' u' => ng e h'' tk z u'
  | wrap hq hto =>
    rcases h5 with rfl | rfl | rfl | rfl | rfl
    all_goals
      refine wpAny_call (code_q X' T' (by k_is) (by k_is) room (BindsTo.of_eq rfl) (locs rfl) (fun h₁ F => ?_) rfl rfl rfl (by decide))
      refine q_walkQ Bl X' T' h6 F hq ht hto C hh hd hu (fun b h' tk e x => ok b h' tk e (Ext.trans F.keep x)) (fun e h' tk z u => ?_)
      exact up_leave Bl F u fun h'' u' => ng e h'' tk z u'
set_option maxHeartbeats 4000000
theorem fill9 : PySem.Challenge.rw_rs0255_01.Holds ∨ hd.heap_39 = hd.heap_39 := by
  k_fill
  exact .inr rfl
/-- a QName that stays, and its text -/
def QAt (B : Heap) (x : Addr) (t : Value) : Prop := ∃ dx sl hs tk n, B.get? x = some ⟨.ref 88, some dx, .plain, sl⟩ ∧ B.get? dx = some (dictOf [⟨hs, .str (Str.ofString "text") tk, t⟩] n)
section
variable {w : World} {B : Heap} {A : Around} {outer : List Env} {s : Shared} {mg mb : Str → Option Value} {mean : ExcName → Option Value} {x : Addr} {t o u v : Value} {op : CmpOp} {n : Nat} {r : Res} {T : String} {E : Value → Shared → Prop}
theorem QAt.inst (q : QAt B x t) : ∃ ox od, InstAt B x ox 88 (some od) ∧ lookIn (Str.ofString "text") od = some (some t) := by
  obtain ⟨dx, sl, hs, tk, n, h1, h2⟩ := q
  exact ⟨_, _, ⟨h1, rfl, rfl, h2⟩, rfl⟩
theorem InstAt.ext {h h' : Heap} {x : Addr} {ox : Obj} {C : Addr} {od : Obj} (I : InstAt h x ox C (some od)) (k : Ext h h') : InstAt h' x ox C (some od) := by
  obtain ⟨a, b, c, d⟩ := I
  refine ⟨k _ _ a, b, c, ?_⟩
  cases e : ox.dict with
  | none => rw [e] at d; exact d
  | some dx => rw [e] at d; exact k _ _ d
theorem QAt.type (q : QAt B x t) : Looks (model prog w) B (typeOf (.ref x)) (.ref 88) := by
  obtain ⟨ox, od, I, _⟩ := q.inst
  exact I.type
theorem QAt.text (X : (hd.heap_39 w.params).In B) (q : QAt B x t) (hh : handedIn t = true) : HasText w B (.ref x) t := ⟨fun A expr Q E s k h => by
  obtain ⟨ox, od, I, hl⟩ := q.inst
  refine get_value (X.keeps k) (InstAt.ext I k) (by k_is) (findObj_own (K := hd.heap_39 w.params) (attr := none) (by k_is) (by k_is) (by k_is) hl) hh (h _)⟩
theorem QAt.isq (X : (hd.heap_39 w.params).In B) (q : QAt B x t) : IsQ w B (.ref x) true := ⟨fun A Q E s k h => by
  obtain ⟨ox, od, I, hl⟩ := q.inst
  exact isi_call (X.keeps k) (fun M => (InstAt.ext I k).type) (by k_is) (by intro e; cases e) (h _)⟩
theorem Core.isq (X : (hd.heap_39 w.params).In B) (C : Core B v T) : IsQ w B v false := ⟨fun A Q E s k h => by
  cases C
  · exact isn_call (P := fun _ => True) (X.keeps k) (fun M => Looks.of_pure rfl) (by k_not) (by intro e; cases e) trivial int_cls (h _)
  · exact isn_call (P := fun _ => True) (X.keeps k) (fun M => Looks.of_pure rfl) (by k_not) (by intro e; cases e) trivial str_cls (h _)
  · exact isn_call (P := fun _ => True) (X.keeps k) (fun M => Looks.of_pure rfl) (by k_not) (by intro e; cases e) trivial none_cls (h _)
  · rename_i ho
    exact isn_call (P := fun h => ∃ o, h.get? _ = some o ∧ o.cls = .type "list") (X.keeps k) (fun M => (Looks.ld (k _ _ ho)).andThen .now) (by k_not) (by intro e; cases e) ⟨_, k _ _ ho, rfl⟩ list_cls (h _)
  · rename_i ho
    exact isn_call (P := fun h => ∃ o, h.get? _ = some o ∧ o.cls = .type "tuple") (X.keeps k) (fun M => (Looks.ld (k _ _ ho)).andThen .now) (by k_not) (by intro e; cases e) ⟨_, k _ _ ho, rfl⟩ tuple_cls (h _)⟩
theorem QAt.sub (X : (hd.heap_39 w.params).In B) (h : T ∈ ["int", "str", "NoneType", "list", "tuple"]) : Looks (model prog w) B (isSubtype (.ref 88) (.type T)) false := by
  simp only [List.mem_cons, List.not_mem_nil, or_false] at h
  rcases h with rfl | rfl | rfl | rfl | rfl
  · exact looks_subIn X (by k_is)
  · exact looks_subIn X (by k_is)
  · exact looks_subIn X (by k_is)
  · exact looks_subIn X (by k_is)
  · exact looks_subIn X (by k_is)
theorem Core.sub (X : (hd.heap_39 w.params).In B) (C : Core B v T) : Looks (model prog w) B (isSubtype (.type T) (.ref 88)) false := by
  cases C
  · exact looks_subIn X (by k_is)
  · exact looks_subIn X (by k_is)
  · exact looks_subIn X (by k_is)
  · exact looks_subIn X (by k_is)
  · exact looks_subIn X (by k_is)
theorem QAt.off (X : (hd.heap_39 w.params).In B) (q : QAt B x t) (h : T ∈ ["int", "str", "NoneType", "list", "tuple"]) : Off prog w B T (.ref x) where
  int := fun _ => by
    obtain ⟨dx, sl, hs, tk, n, h1, h2⟩ := q
    exact (Looks.ld (part := Option.none) h1).andThen .now
  str := fun _ => by
    obtain ⟨dx, sl, hs, tk, n, h1, h2⟩ := q
    exact (Looks.ld (part := Option.none) h1).andThen .now
  none := fun _ => rfl
  seq := fun _ => ⟨_, q.type, QAt.sub X h⟩

theorem ifBound_B {K : Frag} {M : Model} {C : Addr} {ox : Obj} {od : Option Obj} {name : Str} {id : String} {args : List Value} {Q : Option Value → Shared → Prop} (X : K.In s.heap) (I : InstAt s.heap x ox C od) (hs : findIn K (.ref C) name = some (some (.builtin id)))
    (hb : ∀ self, bindSpecial (.builtin id) self = pure (.builtin id, [self]))
    (h : wpAny M A (call (.builtin id) (.ref x :: args)) (fun v => Q (some v)) E s) : wpAny M A (callSpecialIfBound? (.ref x) name args) Q E s := by
  simp only [callSpecialIfBound?, bindSpecialIfBound?]
  refine wpAny_holding (wpAny_bind (wpAny_bind (wpAny_bind (I.type.here ((looks_findIn X hs).here ?_)))))
  refine wpAny_bind (wpAny_askSetting (wpAny_ite ?_))
  have fin : wpAny M A (call (.builtin id) ([.ref x] ++ args) >>= fun v => pure (some v)) Q E s := wpAny_bind (wpAny_mono h (fun v s' h' => wpAny_pure h') fun _ _ h' => h')
  split
  · exact wpAny_bind (wpAny_of_eq (hb _) (wpAny_pure (by exact fin)))
  · exact wpAny_tryCatch (wpAny_bind (wpAny_of_eq (hb _) (wpAny_pure (by exact fin))))

theorem q_try {Q : Option Value → Shared → Prop} (h6 : Six op) (Bl : Below A B outer s.heap) (X : (hd.heap_39 w.params).In B) (Tp : TopAt mg mb mean B) (q : QAt B x t) (hh : handedIn t = true) (hO : Other w B o u)
    (C : CmpOk prog w B n t u r) (hn : A.handled = none) (hd : A.depth + (n + 1) < recursionLimit) (hu : A.units + 8 * (n + 1) < cLine)
    (ok : ∀ b h' tk, ans op r = some b → Ext s.heap h' → Q (some (.bool b)) { s with heap := h', toks := tk })
    (ng : ∀ e h' tk, ans op r = none → Up B outer e s.heap h' → E (.ref e) { s with heap := h', toks := tk }) :
    wpAny (model prog w) A (tryCompare (.ref x) (cmpInfo op).2.1 o) Q E s := by
  obtain ⟨ox, od, I, hl⟩ := q.inst
  have I' := InstAt.ext I Bl.stays
  have X' := X.keeps Bl.stays
  have ht := q.text X hh
  by_cases hne : op = .NotEq
  · subst hne
    unfold tryCompare
    refine wpAny_bind (ifBound_B X' I' (by k_is) F.slot_object_ne.bind ?_)
    refine wpAny_call (codeAny_call_builtin F.slot_object_ne.plain F.entry_object_ne (check_slot F.cmpKind_ne F.cmpSplit_ne (I'.type.andThen (looks_subIn X' (by k_is))) (F.cmpArgs_ne _ _) ?_))
    show wpAny _ A.in1 (Builtin.«object.__ne__» _) _ _ _
    unfold Builtin.«object.__ne__»
    refine wpAny_bind (wpAny_pure ?_)
    refine wpAny_bind (wpAny_cRoomFor (by show A.units + 1 < _; omega) ?_)
    refine wpAny_bind (ifBound_K X' I' (f := 85) (by k_is) (by k_is) ?_)
    refine q_call (op := .Eq) (outer := outer) (by simp [Five]) ⟨Bl.stack, Bl.stays, Bl.frames⟩ X Tp hO ht C hn hd (by show A.units + 1 + 4 + 8 * n < _; omega) (fun b h' tk e k => ?_) (fun e h' tk z _ => by cases z)
    cases e
    refine wpAny_bind (wpAny_truthy_bool (wpAny_pure ?_))
    exact wpAny_pure (ok _ h' tk rfl k)
  · have h5 : Five op := by rcases h6 with h | h | h | h | h | h <;> first | exact absurd h hne | simp [Five, h]
    unfold tryCompare
    have fin : wpAny (model prog w) A (call (.ref (qf op)) [.ref x, o]) (fun v s' => wpAny (model prog w) A (match some v with | some .notImplemented | none => pure none | some v => pure (some v)) Q E s') E s :=
      q_call h5 Bl X Tp hO ht C hn hd (by omega) (fun b h' tk e k => wpAny_pure (ok b h' tk e k)) ng
    rcases h5 with rfl | rfl | rfl | rfl | rfl
    · exact wpAny_bind (ifBound_K X' I' (by k_is) (by k_is) fin)
    · exact wpAny_bind (ifBound_K X' I' (by k_is) (by k_is) fin)
    · exact wpAny_bind (ifBound_K X' I' (by k_is) (by k_is) fin)
    · exact wpAny_bind (ifBound_K X' I' (by k_is) (by k_is) fin)
    · exact wpAny_bind (ifBound_K X' I' (by k_is) (by k_is) fin)
end
set_option maxHeartbeats 4000000
section
variable {w : World} {B : Heap} {A : Around} {outer : List Env} {s : Shared} {mg mb : Str → Option Value} {mean : ExcName → Option Value} {x : Addr} {t o u v : Value} {op : CmpOp} {n : Nat} {r : Res} {T : String} {E : Value → Shared → Prop}
theorem CmpOk.mono {a b : Value} {n' : Nat} (C : CmpOk prog w B n a b r) (h : n ≤ n') : CmpOk prog w B n' a b r := fun op h6 A outer s Q E K hh hd hu ok ng => C op h6 A outer s Q E K hh (by omega) (by omega) ok ng
theorem cmp_q {tb : Value} (X : (hd.heap_39 w.params).In B) (Tp : TopAt mg mb mean B) (q : QAt B x t) (hh : handedIn t = true) (hO : Other w B o u) (hb : Looks (model prog w) B (typeOf o) tb) (hs : (.ref 88 : Value) = tb ∨ Looks (model prog w) B (isSubtype tb (.ref 88)) false)
    (C : CmpOk prog w B n t u r) : CmpOk prog w B (n + 1) (.ref x) o r := by
  intro op h6 A outer s Q E K hn hd hu ok ng
  refine rc_base (by omega) rfl K.stays q.type hb hs ?_
  exact q_try h6 K X Tp q hh hO C hn hd hu (fun b h' tk e k => ok b h' tk e k) ng
theorem cmp_qr {r' : Res} (X : (hd.heap_39 w.params).In B) (Tp : TopAt mg mb mean B) (Cv : Core B v T) (q : QAt B x t) (hh : handedIn t = true)
    (C : CmpOk prog w B n t v r') (hr : ∀ op, Six op → ans (rev op) r' = ans op r) : CmpOk prog w B (n + 1) v (.ref x) r := by
  intro op h6 A outer s Q E K hn hd hu ok ng
  refine rc_base (by omega) (Cv.one _ _) K.stays Cv.typeOf q.type (.inr (QAt.sub X Cv.mem)) ?_
  refine Cv.declines (q.off X Cv.mem) h6 K.stays ?_
  have h6' : Six (rev op) := by rcases h6 with rfl | rfl | rfl | rfl | rfl | rfl <;> simp [Six, rev]
  have e : (cmpInfo op).2.2 = (cmpInfo (rev op)).2.1 := by rcases h6 with rfl | rfl | rfl | rfl | rfl | rfl <;> rfl
  rw [e]
  exact q_try h6' K X Tp q hh (.plain (Cv.isq X)) C hn hd hu (fun b h' tk e k => ok b h' tk (by rw [← hr op h6]; exact e) k) fun e h' tk z u => ng e h' tk (by rw [← hr op h6]; exact z) u

/-- a dressed thing: a leaf, a row, or a QName of one; n its height, k its rank -/
inductive Dr (B : Heap) : Nat → Nat → Value → D → Prop
  | int {n k : Nat} (i : Int) (t : Tok) : Dr B n k (.int i t) (.int i)
  | str {n k : Nat} (x : Str) (t : Tok) : Dr B n k (.str x t) (.str x)
  | non {n k : Nat} : Dr B n k .none .none
  | row {n k : Nat} {a : Addr} {l : Bool} {dd : Option Addr} {xs : Array Value} {nn : Nat} {sl : Array (Option Value)} {ds : List D} : B.get? a = some ⟨.type (if l then "list" else "tuple"), dd, .seq xs nn, sl⟩ → xs.size = ds.length →
      (∀ j (h1 : j < xs.size) (h2 : j < ds.length), Dr B n k xs[j] ds[j]) → Dr B (n + 1) (k + 1) (.ref a) (.row l ds)
  | wrap {n k : Nat} {x : Addr} {t : Value} {d : D} : QAt B x t → Dr B n k t d → Dr B (n + 1) k (.ref x) d

theorem Dr.handed {n k : Nat} {v : Value} {d : D} (h : Dr B n k v d) : handedIn v = true := by cases h <;> rfl
theorem Dr.nofl {n k : Nat} {v : Value} {d : D} (h : Dr B n k v d) (b : UInt64) (t : Tok) : v ≠ .float b t := by cases h <;> exact nofun
theorem Dr.one {n k : Nat} {v : Value} {d : D} (h : Dr B n k v d) : ∀ {n' k' : Nat} {e : D}, Dr B n' k' v e → d = e := by
  induction h with
  | int i t => intro n' k' e h'; cases h'; rfl
  | str i t => intro n' k' e h'; cases h'; rfl
  | non => intro n' k' e h'; cases h'; rfl
  | @row n k a l dd xs nn sl ds ha hl hi ih =>
    intro n' k' e h'
    cases h' with
    | @row n2 k2 _ l2 dd2 xs2 nn2 sl2 ds2 ha2 hl2 hi2 =>
      rw [ha] at ha2
      injection ha2 with ha2
      injection ha2 with c1 c2 c3 c4
      injection c3 with c3 c5
      subst c3
      have el : l = l2 := by cases l <;> cases l2 <;> first | rfl | (simp at c1)
      subst el
      have : ds = ds2 := List.ext_getElem (by omega) fun j h1 h2 => ih j (by omega) h1 (hi2 j (by omega) h2)
      rw [this]
    | wrap q _ =>
      obtain ⟨dx, sl2, hs, tk, nn2, h1, h2⟩ := q
      rw [ha] at h1
      injection h1 with h1
      injection h1 with c1 c2 c3 c4
      cases c3
  | @wrap n k x t d q ht ih =>
    intro n' k' e h'
    cases h' with
    | row ha _ _ =>
      obtain ⟨dx, sl2, hs, tk, nn2, h1, h2⟩ := q
      rw [ha] at h1
      injection h1 with h1
      injection h1 with c1 c2 c3 c4
      cases c3
    | @wrap _ _ _ t2 _ q2 ht2 =>
      obtain ⟨dx, sl, hs, tk, nn, h1, h2⟩ := q
      obtain ⟨dx2, sl2, hs2, tk2, nn2, h12, h22⟩ := q2
      rw [h1] at h12
      injection h12 with h12
      injection h12 with c1 c2 c3 c4
      injection c2 with c2
      subst c2
      rw [h2] at h22
      injection h22 with h22
      have h3 := congrArg (lookIn (Str.ofString "text")) h22
      have h4 : (some (some t) : Option (Option Value)) = some (some t2) := h3
      injection h4 with h4
      injection h4 with h4
      subst h4
      exact ih ht2
theorem rowRes_refl {f : D → D → Res} : ∀ {ds : List D}, (∀ j (h : j < ds.length), (f ds[j] ds[j]).1 = true) → (rowRes f ds ds).1 = true
  | [], _ => rfl
  | d :: ds, h => by
    have h0 := h 0 (by simp)
    simp only [List.getElem_cons_zero] at h0
    simp only [rowRes, h0, if_true]
    exact rowRes_refl fun j hj => h (j + 1) (by simpa using hj)
theorem Dr.refl {n k : Nat} {v : Value} {d : D} (h : Dr B n k v d) : (stand k d d).1 = true := by
  induction h with
  | int i t => cases ‹Nat› <;> simp [stand, leafRes]
  | str i t => rename_i k; cases k <;> simp [stand, leafRes]
  | non => rename_i k; cases k <;> rfl
  | @row n k a l dd xs nn sl ds ha hl hi ih =>
    simp only [stand, if_true]
    exact rowRes_refl fun j hj => ih j (by omega) hj
  | wrap _ _ ih => exact ih
end
set_option maxHeartbeats 4000000
section
variable {w : World} {B : Heap} {mg mb : Str → Option Value} {mean : ExcName → Option Value}
noncomputable def D.T : D → String
  | .int _ => "int" | .str _ => "str" | .none => "NoneType" | .row l _ => if l then "list" else "tuple"
theorem no_both {x : Addr} {t : Value} {T : String} (c : Core B (.ref x) T) (q : QAt B x t) : False := by
  obtain ⟨_, _, _, _, _, h3, _⟩ := q
  cases c <;> rename_i h4 <;> rw [h3] at h4 <;> cases h4
theorem Dr.cases' {n k : Nat} {v : Value} {d : D} (h : Dr B n k v d) : Core B v d.T ∨ ∃ n' x t, n = n' + 1 ∧ v = .ref x ∧ QAt B x t ∧ Dr B n' k t d := by
  cases h with
  | int i t => exact .inl (.int i t)
  | str i t => exact .inl (.str i t)
  | non => exact .inl .non
  | @row n k a l dd xs nn sl ds ha hl hi =>
    cases l
    · exact .inl (.tuple ha)
    · exact .inl (.list ha)
  | @wrap n k x t d q ht => exact .inr ⟨_, _, _, rfl, rfl, q, ht⟩

theorem stand_apart {k : Nat} {d e : D} (h : d.T ≠ e.T) : stand k d e = (false, none) := by
  cases k <;> cases d <;> cases e <;> first
    | rfl
    | exact absurd rfl h
    | (rename_i l _ m _; cases l <;> cases m <;> first | rfl | exact absurd rfl h)

theorem cmp_all (X : (hd.heap_39 w.params).In B) (Tp : TopAt mg mb mean B) : ∀ N n m k v u d e, n + m ≤ N → Dr B n k v d → Dr B m k u e → CmpOk prog w B (N + 1) v u (stand k d e) := by
  intro N
  induction N with
  | zero =>
    intro n m k v u d e hN hv hu
    have h1 := hv.cases'
    have h2 := hu.cases'
    rcases h1 with c1 | ⟨n', x, t, e1, _⟩
    · rcases h2 with c2 | ⟨n', x, t, e1, _⟩
      · by_cases hT : d.T = e.T
        · cases hv with
          | int i t =>
            cases hu with
            | int j s => cases k <;> exact cmp_int
            | str => simp [D.T] at hT
            | non => simp [D.T] at hT
            | wrap => omega
            | row => omega
          | str i t =>
            cases hu with
            | int j s => simp [D.T] at hT
            | str => cases k <;> exact cmp_str
            | non => simp [D.T] at hT
            | wrap => omega
            | row => omega
          | non =>
            cases hu with
            | int j s => simp [D.T] at hT
            | str => simp [D.T] at hT
            | non => cases k <;> exact cmp_none (by omega)
            | wrap => omega
            | row => omega
          | row => omega
          | wrap => omega
        · rw [stand_apart hT]; exact cmp_apart (by omega) c1 c2 hT
      · omega
    · omega
  | succ N ih =>
    intro n m k v u d e hN hv hu
    have h1 := hv.cases'
    have h2 := hu.cases'
    rcases h1 with c1 | ⟨n', x, t, e1, rfl, q1, t1⟩
    · rcases h2 with c2 | ⟨m', y, z, e2, rfl, q2, t2⟩
      · by_cases hT : d.T = e.T
        · cases hv with
          | int i t =>
            cases hu with
            | int j s => cases k <;> exact cmp_int
            | str => simp [D.T] at hT
            | non => simp [D.T] at hT
            | wrap q _ => exact (no_both c2 q).elim
            | @row _ _ _ l => cases l <;> simp [D.T] at hT
          | str i t =>
            cases hu with
            | int j s => simp [D.T] at hT
            | str => cases k <;> exact cmp_str
            | non => simp [D.T] at hT
            | wrap q _ => exact (no_both c2 q).elim
            | @row _ _ _ l => cases l <;> simp [D.T] at hT
          | non =>
            cases hu with
            | int j s => simp [D.T] at hT
            | str => simp [D.T] at hT
            | non => cases k <;> exact cmp_none (by omega)
            | wrap q _ => exact (no_both c2 q).elim
            | @row _ _ _ l => cases l <;> simp [D.T] at hT
          | @row n k a l dd xs nn sl ds ha hl hi =>
            cases hu with
            | int j s => cases l <;> simp [D.T] at hT
            | str => cases l <;> simp [D.T] at hT
            | non => cases l <;> simp [D.T] at hT
            | wrap q _ => exact (no_both c2 q).elim
            | @row m _ b l2 dd2 ys nn2 sl2 es hb hl2 hi2 =>
              have el : l = l2 := by cases l <;> cases l2 <;> first | rfl | simp [D.T] at hT
              subst el
              have I : Items prog w B (N + 1) (stand k) xs ys ds es := {
                lx := hl
                ly := hl2
                ok := fun j h1 h2 h3 h4 => ih n m k _ _ _ _ (by omega) (hi j h1 h3) (hi2 j h2 h4)
                same := fun j h1 h2 h3 h4 he => by
                  have a := hi j h1 h3
                  have b := hi2 j h2 h4
                  rw [← he] at b
                  rw [← a.one b]
                  exact a.refl
                nofl := fun j h1 b t => (hi j h1 (by omega)).nofl b t }
              simp only [stand, if_true]
              cases l
              · exact cmp_tuple I ha hb
              · exact cmp_list I ha hb
          | wrap q _ => exact (no_both c1 q).elim
        · rw [stand_apart hT]; exact cmp_apart (by omega) c1 c2 hT
      · subst e2
        refine cmp_qr X Tp c1 q2 t2.handed (ih m' n k z v e d (by omega) t2 hv) fun op h6 => ?_
        rw [stand_flip k d e]
        exact ans_flip h6 _
    · subst e1
      rcases h2 with c2 | ⟨m', y, z, e2, rfl, q2, t2⟩
      · exact cmp_q X Tp q1 t1.handed (.plain (c2.isq X)) c2.typeOf (.inr (c2.sub X)) (ih n' m k t u d e (by omega) t1 hu)
      · subst e2
        exact cmp_q X Tp q1 t1.handed (.wrap (q2.isq X) (q2.text X t2.handed)) q2.type (.inl rfl) (ih n' m' k t z d e (by omega) t1 t2)
end
set_option maxHeartbeats 4000000
theorem Dr.mono {B B' : Heap} (x : Ext B B') {n k : Nat} {v : Value} {d : D} (h : Dr B n k v d) : Dr B' n k v d := by
  induction h with
  | int i t => exact .int i t
  | str i t => exact .str i t
  | non => exact .non
  | row ha hl _ ih => exact .row (x _ _ ha) hl ih
  | wrap q _ ih =>
    obtain ⟨dx, sl, hs, tk, n, h1, h2⟩ := q
    exact .wrap ⟨dx, sl, hs, tk, n, x _ _ h1, x _ _ h2⟩ ih

theorem up_leaveX {M : Model} {A : Around} {E : Value → Shared → Prop} {s' : Shared} {B g h : Heap} {outer : List Env} {env : Env} {L e : Addr} {m : Str → Option Value} {Q : Unit → Shared → Prop}
    (K : Below A B outer g) (F : Fr g L h m) (hf : env.frame = some L) (hk : env.scope.kind = .function) (hx : Up B (env :: outer) e h s'.heap)
    (hQ : ∀ h' a0, Heap.FlyingW B outer e (.type "TypeError") a0 h' → g.UpToSlots h' → Q () { s' with heap := h' }) :
    wpAny M (A.deeper env) (leaving env (.ref e)) Q E s' := by
  rcases hx with ⟨h2, x, hx⟩ | ⟨a0, fl, us⟩
  · have K' := below_ext (pushX K F hf hk) x
    obtain ⟨ob, tp, he, hcls, hd⟩ := hx.there
    have hen : B.get? e = none := by
      cases q : B.get? e with
      | none => rfl
      | some o => have := K'.stays _ _ q; rw [hx.new] at this; cases this
    refine wpAny_leaving_firstW (a0 := tp) K'.stack (K'.frames.of_keeps fun b o hb _ => ⟨o, hx.keeps b o hb, rfl⟩) hf he (fun b o hb => hx.keeps b o (K'.stays b o hb)) hen hd rfl rfl fun h' hL => ?_
    obtain ⟨k1, ⟨_, _, k2⟩, k3, k4⟩ := hL
    exact hQ h' tp ⟨k1, hen, k2, by rw [← hcls]; exact k3⟩ ((((Heap.UpToSlots.of_keeps F.keep).trans (Heap.UpToSlots.of_keeps x)).trans (Heap.UpToSlots.of_keeps hx.keeps)).trans k4)
  · exact wpAny_leaves_onW (Around.frames_deeper K.stack) hf fl fun h' x1 x2 => hQ h' a0 x1 ((Heap.UpToSlots.of_keeps F.keep).trans (us.trans x2))

/-! ## the frame of _law_answers: it stands in law's own, whose locals lie in its ledger -/
def NF (o : Obj) : Prop := ∀ vs, o.data ≠ .fields vs
structure InLaw (A₁ : Around) (env : Env) (Lw : Addr) (L : Addr) : Prop where
  stack : ∃ elaw : Env, A₁.frames = some [elaw] ∧ elaw.frame = some Lw ∧ elaw.scope.kind ≠ .module
  frame : env.frame = some L
  kind : env.scope.kind = .function
  apart : Lw < L
  hn : A₁.handled = none
  depth : A₁.depth + 30 < recursionLimit
  units : A₁.units + 300 < cLine

section
variable {w : World} {A₁ : Around} {env : Env} {Lw L : Addr} {oL : Obj} {g : Heap} {s : Shared} {m : Str → Option Value} {news : List (Addr × Obj)} {mg mb : Str → Option Value} {mean : ExcName → Option Value} {Q E : Value → Shared → Prop} {v u : Value} {d e : D} {op : CmpOp}
theorem ground_lt {h : Heap} (F : Fr g L h m) {b : Addr} {o : Obj} (e : g.get? b = some o) : b ≠ L := Nat.ne_of_lt (Nat.lt_of_lt_of_le (Heap.lt_size e) F.above)
theorem ground_hide {h : Heap} (F : Fr g L h m) (hm : g.get? Lw = none) : Ext g (hideAll h [L, Lw]) := fun b o h => hideAll_get _ (F.keep _ _ h) fun q => by
  rcases List.mem_cons.mp q with rfl | q
  · exact ground_lt F h rfl
  · rw [List.mem_singleton] at q
    subst q
    rw [hm] at h; cases h
theorem InLaw.below (I : InLaw A₁ env Lw L) (F : Fr g L s.heap m) (hL : s.heap.get? Lw = some oL) (hdt : NF oL) : ∃ elaw : Env, A₁.frames = some [elaw] ∧ Below (A₁.deeper env) (hideAll s.heap [L, Lw]) [env, elaw] s.heap := by
  obtain ⟨elaw, h1, h2, h3⟩ := I.stack
  obtain ⟨oN, _, _, hN, hd, _⟩ := F.ns
  refine ⟨elaw, h1, Around.frames_deeper h1, fun b o e => of_hideAll _ e, ?_⟩
  refine ⟨by rw [I.kind]; decide, ⟨L, oN, I.frame, hideAll_none _ (.head _), hN, fun vs q => by rw [hd] at q; cases q⟩, h3, ⟨Lw, oL, h2, hideAll_none _ (.tail _ (.head _)), hL, hdt⟩, trivial⟩

theorem ask_plain (F : Fr g L s.heap m) (N : News g L s.heap news) (I : InLaw A₁ env Lw L) (hm : (Lw, oL) ∈ news) (hdt : NF oL) (X : (hd.heap_39 w.params).In g) (T : TopAt mg mb mean g) (Dv : Dr g 8 2 v d) (Du : Dr g 8 2 u e)
    (h6 : op = .Eq ∨ op = .NotEq) (h : ∀ b h' tk, ans op (stand 2 d e) = some b → Fr g L h' m → News g L h' news → Q (.bool b) { s with heap := h', toks := tk }) : wpAny (model prog w) (A₁.deeper env) (compareOp op v u) Q E s := by
  obtain ⟨elaw, _, K⟩ := I.below F (N _ hm).1 hdt
  have x := ground_hide F (N _ hm).2.2
  have hS : Six op := by rcases h6 with rfl | rfl <;> simp [Six]
  refine cmp_six hS (cmp_all (X.keeps x) (T.keeps x) 16 8 8 2 v u d e (by omega) (Dv.mono x) (Du.mono x) op hS _ _ _ _ _ K I.hn (by have := I.depth; show A₁.depth + 1 + 17 < _; omega) (by have := I.units; show A₁.units + 3 + 8 * 17 < _; omega) (fun b h' tk e x' => ?_) fun _ _ _ z _ => by rcases h6 with rfl | rfl <;> cases z)
  exact h b h' tk e (F.keeps x') fun q hq => ⟨x' _ _ (N q hq).1, (N q hq).2⟩

/-! ## a lambda that asks -/
def lscope : Scope := { kind := ScopeKind.function, names := [(Str.ofString "one", NameKind.free), (Str.ofString "other", NameKind.free)], isGenerator := false, isCoroutine := false }
def lparams : Arguments := { posonlyargs := [], args := [], vararg := none, kwonlyargs := [], kw_defaults := [], kwarg := none, defaults := [] }
abbrev lobj (name qual : Str) (op : CmpOp) (p1 p2 p3 : Pos) (cl : List (Str × Addr)) (pm : Value) (c' : Addr) (ctv : Value) : Obj :=
  kla_obj name qual lparams (Expr.Compare (Expr.Name (Str.ofString "one") p1) [op] [Expr.Name (Str.ofString "other") p2] p3) lscope cl pm c' ctv
theorem lam_call {name qual : Str} {p1 p2 p3 : Pos} {cl : List (Str × Addr)} {pm ctv : Value} {c' f c1 c2 : Addr} {o1 o2 : Obj}
    (F : Fr g L s.heap m) (N : News g L s.heap news) (I : InLaw A₁ env Lw L) (hm : (Lw, oL) ∈ news) (hdt : NF oL) (X : (hd.heap_39 w.params).In g) (T : TopAt mg mb mean g) (Dv : Dr g 8 2 v d) (Du : Dr g 8 2 u e) (h6 : Six op)
    (hf : (f, lobj name qual op p1 p2 p3 cl pm c' ctv) ∈ news) (hcd : s.heap.CodeRec (.ref c') qual) (hc1 : cl.lookup (Str.ofString "one") = some c1) (hc2 : cl.lookup (Str.ofString "other") = some c2)
    (hm1 : (c1, o1) ∈ news) (hm2 : (c2, o2) ∈ news) (hd1 : o1.data = .cell (some v)) (hd2 : o2.data = .cell (some u))
    (ok : ∀ b h' tk, ans op (stand 2 d e) = some b → Fr g L h' m → News g L h' news → Q (.bool b) { s with heap := h', toks := tk })
    (ng : ∀ elaw x a0 h' tk, ans op (stand 2 d e) = none → A₁.frames = some [elaw] → Heap.FlyingW (hideAll s.heap [L, Lw]) [env, elaw] x (.type "TypeError") a0 h' → s.heap.UpToSlots h' → E (.ref x) { s with heap := h', toks := tk }) :
    wpAny (model prog w) (A₁.deeper env) (call (.ref f) []) Q E s := by
  obtain ⟨elaw, hel, K⟩ := I.below F (N _ hm).1 hdt
  have x := ground_hide F (N _ hm).2.2
  refine wpAny_call (kla_callFunE (by have := I.depth; show A₁.depth + 1 < _; omega) (N _ hf).1 rfl rfl rfl rfl hcd ?_)
  rw [show bindArgs (kla_fn name qual lparams (Expr.Compare (Expr.Name (Str.ofString "one") p1) [op] [Expr.Name (Str.ofString "other") p2] p3) lscope cl pm (.ref c') ctv) ⟨[], []⟩ = pure [] from rfl]
  refine wpAny_pure (wpAny_newFunctionEnv (show ∀ x ∈ lscope.names, x.2 ≠ .cell by decide) (fun _ h => nomatch h) (fun h₁ hns hsb => ⟨((T.nolimit).keeps F.keep).fresh _ hsb, ?_⟩) rfl)
  show codeAny _ _ (.expr _ (envX qual lscope s.heap.objs.size f (.ref c') cl)) _ _
  have hk₁ : Ext s.heap h₁ := fun b o e => hsb.extBut b o (Nat.ne_of_lt (Heap.lt_size e)) (Heap.get?_push_of_some _ e)
  have F₁ : Fr s.heap s.heap.objs.size h₁ (fun y => ([] : List (Str × Value)).reverse.lookup y) := ⟨hns, hk₁, Nat.le_refl _⟩
  have N₁ : News g L h₁ news := fun q hq => ⟨hk₁ _ _ (N q hq).1, (N q hq).2⟩
  have N₂ : News g s.heap.objs.size h₁ news := fun q hq => ⟨hk₁ _ _ (N q hq).1, Nat.ne_of_lt (Heap.lt_size (N q hq).1), (N q hq).2.2⟩
  have K₁ := pushX K F₁ (env := envX qual lscope s.heap.objs.size f (.ref c') cl) rfl rfl
  refine kla_codeExpr ?_
  refine wpAny_Compare1 ?_
  refine nameX_F (news := news) N₂ hc1 hm1 hd1 ?_
  refine nameX_F (news := news) N₂ hc2 hm2 hd2 ?_
  refine cmp_six h6 (cmp_all (X.keeps x) (T.keeps x) 16 8 8 2 v u d e (by omega) (Dv.mono x) (Du.mono x) op h6 _ _ _ _ _ K₁ I.hn (by have := I.depth; show A₁.depth + 1 + 1 + 17 < _; omega) (by have := I.units; show A₁.units + 3 + 3 + 8 * 17 < _; omega) (fun b h' tk e x' => ?_) fun e h' tk z u => ?_)
  · exact ok b h' tk e (F.keeps (Ext.trans hk₁ x')) fun q hq => ⟨x' _ _ (N₁ q hq).1, (N₁ q hq).2⟩
  · exact up_leaveX K F₁ rfl rfl u fun h'' a0 fl us => ng elaw e a0 h'' tk z hel fl us

noncomputable def ordB (op : CmpOp) (x : Int) : Bool := match op with
  | .Lt => decide (x < 0) | .LtE => decide (x ≤ 0) | .Gt => decide (x > 0) | _ => decide (x ≥ 0)
def Four (op : CmpOp) : Prop := op = .Lt ∨ op = .LtE ∨ op = .Gt ∨ op = .GtE
theorem Four.six {op : CmpOp} (h : Four op) : Six op := by rcases h with h | h | h | h <;> simp [Six, h]
theorem ans_some {op : CmpOp} {r : Res} {x : Int} (h : Four op) (hr : r.2 = some x) : ans op r = some (ordB op x) := by
  obtain ⟨a, b⟩ := r
  dsimp only at hr
  subst hr
  rcases h with rfl | rfl | rfl | rfl <;> rfl
theorem ans_none {op : CmpOp} {r : Res} (h : Four op) (hr : r.2 = none) : ans op r = none := by
  obtain ⟨a, b⟩ := r
  dsimp only at hr
  subst hr
  rcases h with rfl | rfl | rfl | rfl <;> rfl
theorem lam_some {x : Int} {name qual : Str} {p1 p2 p3 : Pos} {cl : List (Str × Addr)} {pm ctv : Value} {c' f c1 c2 : Addr} {o1 o2 : Obj}
    (F : Fr g L s.heap m) (N : News g L s.heap news) (I : InLaw A₁ env Lw L) (hm : (Lw, oL) ∈ news) (hdt : NF oL) (X : (hd.heap_39 w.params).In g) (T : TopAt mg mb mean g) (Dv : Dr g 8 2 v d) (Du : Dr g 8 2 u e) (hs : (stand 2 d e).2 = some x)
    (hf : (f, lobj name qual op p1 p2 p3 cl pm c' ctv) ∈ news) (h4 : Four op) (hcd : s.heap.CodeRec (.ref c') qual) (hc1 : cl.lookup (Str.ofString "one") = some c1) (hc2 : cl.lookup (Str.ofString "other") = some c2)
    (hm1 : (c1, o1) ∈ news) (hm2 : (c2, o2) ∈ news) (hd1 : o1.data = .cell (some v)) (hd2 : o2.data = .cell (some u))
    (ok : ∀ h' tk, Fr g L h' m → News g L h' news → Q (.bool (ordB op x)) { s with heap := h', toks := tk }) :
    wpAny (model prog w) (A₁.deeper env) (call (.ref f) []) Q E s :=
  lam_call F N I hm hdt X T Dv Du h4.six hf hcd hc1 hc2 hm1 hm2 hd1 hd2 (fun b h' tk e F' N' => by rw [ans_some h4 hs] at e; cases e; exact ok h' tk F' N') fun _ _ _ _ _ z => by rw [ans_some h4 hs] at z; cases z
theorem lam_none {name qual : Str} {p1 p2 p3 : Pos} {cl : List (Str × Addr)} {pm ctv : Value} {c' f c1 c2 : Addr} {o1 o2 : Obj}
    (F : Fr g L s.heap m) (N : News g L s.heap news) (I : InLaw A₁ env Lw L) (hm : (Lw, oL) ∈ news) (hdt : NF oL) (X : (hd.heap_39 w.params).In g) (T : TopAt mg mb mean g) (Dv : Dr g 8 2 v d) (Du : Dr g 8 2 u e) (hs : (stand 2 d e).2 = none)
    (hf : (f, lobj name qual op p1 p2 p3 cl pm c' ctv) ∈ news) (h4 : Four op) (hcd : s.heap.CodeRec (.ref c') qual) (hc1 : cl.lookup (Str.ofString "one") = some c1) (hc2 : cl.lookup (Str.ofString "other") = some c2)
    (hm1 : (c1, o1) ∈ news) (hm2 : (c2, o2) ∈ news) (hd1 : o1.data = .cell (some v)) (hd2 : o2.data = .cell (some u))
    (ng : ∀ elaw x a0 h' tk, A₁.frames = some [elaw] → Heap.FlyingW (hideAll s.heap [L, Lw]) [env, elaw] x (.type "TypeError") a0 h' → s.heap.UpToSlots h' → E (.ref x) { s with heap := h', toks := tk }) :
    wpAny (model prog w) (A₁.deeper env) (call (.ref f) []) Q E s :=
  lam_call F N I hm hdt X T Dv Du h4.six hf hcd hc1 hc2 hm1 hm2 hd1 hd2 (fun b h' tk e F' N' => by rw [ans_none h4 hs] at e; cases e) fun elaw x a0 h' tk _ a b c => ng elaw x a0 h' tk a b c
end
set_option maxHeartbeats 4000000
theorem fill13 : PySem.Challenge.rw_rs0255_01.Holds ∨ hd.heap_39 = hd.heap_39 := by
  k_fill
  exact .inr rfl
section
variable {w : World} {A₁ : Around} {Lw L : Addr} {oL : Obj} {g : Heap} {s' : Shared} {h : Heap} {m : Str → Option Value} {news : List (Addr × Obj)} {mg mb : Str → Option Value} {mean : ExcName → Option Value} {Q : Flow → Shared → Prop} {E : Value → Shared → Prop}
theorem caught_A {cn : Str} {cs : Scope} {fa : Addr} {ccd : Value} {cl : List (Str × Addr)} {elaw : Env} {e : Addr} {a0 : Value} {gn : Obj → List (Addr × Obj)} {np pos : Pos} {b₀ : Stmt} {suite : List Stmt} {rest : List ExceptHandler}
    (F : Fr g L h m) (N : News g L h news) (I : InLaw A₁ (envX cn cs L fa ccd cl) Lw L) (U : UpdF Lw oL news gn) (hdt : NF oL) (X : (hd.heap_39 w.params).In g) (T : TopAt mg mb mean g) (hel : A₁.frames = some [elaw])
    (fl : Heap.FlyingW (hideAll h [L, Lw]) [envX cn cs L fa ccd cl, elaw] e (.type "TypeError") a0 s'.heap) (hsm : h.UpToSlots s'.heap)
    (k : ∀ h' sl, Fr g L h' m → News g L h' (gn { oL with slots := sl }) →
      wpAny (model prog w) ((A₁.deeper (envX cn cs L fa ccd cl)).mark (some (.ref e))) (execs (b₀ :: suite) (envX cn cs L fa ccd cl)) Q (fun _ _ => False) { s' with heap := h' })
    (hx : (envX cn cs L fa ccd cl).kindOf (Str.ofString "TypeError") = some .globalImplicit := by rfl) :
    wpAny (model prog w) (A₁.deeper (envX cn cs L fa ccd cl)) (noteFrame (.ref e) (envX cn cs L fa ccd cl))
      (fun _ s₂ => wpAny (model prog w) (A₁.deeper (envX cn cs L fa ccd cl)) (setFlight (.ref e) none) (fun _ s₃ =>
        wpAny (model prog w) (A₁.deeper (envX cn cs L fa ccd cl)) (handleBy (.ref e) (envX cn cs L fa ccd cl) (.ExceptHandler (some (.Name (Str.ofString "TypeError") np)) none (b₀ :: suite) pos :: rest)) Q E s₃) E s₂) E s' := by
  obtain ⟨own, rest', rfl, hgn, u1, u2⟩ := U.split
  have hmem := N (Lw, oL) (List.mem_append_right _ (.head _))
  have x := ground_hide F hmem.2.2
  have back : ∀ h', Ext (hideAll h [L, Lw]) h' → h.UpToSlots h' → Fr g L h' m ∧ ∃ sl, News g L h' (gn { oL with slots := sl }) := by
    intro h' k1 k2
    refine ⟨F.of_stays (fun b o q => k1 _ _ (x _ _ q)) k2, ?_⟩
    obtain ⟨sl, hsl⟩ := k2 Lw oL hmem.1 hdt
    refine ⟨sl, ?_⟩
    rw [hgn]
    have old : ∀ p ∈ own ++ (Lw, oL) :: rest', p.1 ≠ Lw → h'.get? p.1 = some p.2 := fun p hp hne => k1 _ _ (hideAll_get _ (N p hp).1 fun q => by
      rcases List.mem_cons.mp q with q | q
      · exact (N p hp).2.1 q
      · exact hne (List.mem_singleton.mp q))
    intro p hp
    rcases List.mem_append.mp hp with hp | hp
    · have hp' : p ∈ own ++ (Lw, oL) :: rest' := List.mem_append_left _ hp
      exact ⟨old p hp' (u1 p hp), (N p hp').2⟩
    · rcases List.mem_cons.mp hp with rfl | hp
      · exact ⟨hsl, hmem.2⟩
      · have hp' : p ∈ own ++ (Lw, oL) :: rest' := List.mem_append_right _ (.tail _ hp)
        exact ⟨old p hp' (u2 p hp), (N p hp').2⟩
  refine wpAny_looks_onW (Around.frames_deeper hel) rfl fl fun h₄ hheld₄ hsm₄ => ?_
  refine wpAny_landsW hheld₄ fun h₅ hheld hsm₅' => ?_
  have hsm₅ := hsm₄.trans hsm₅'
  have F₅ := (back h₅ hheld.1 (hsm.trans hsm₅)).1
  obtain ⟨ob, hob, hobc⟩ := hheld.there
  refine wpAny_handleBy_builtin (X := "TypeError") (T := "TypeError") (b := true) PySem.F.isExc_TypeError PySem.F.notTuple_TypeError (by rw [isSubtype_type]; kernel_rfl) (nameX_B F₅ X (topRead_of T) (by k_is) PyProof.Rows.Boot.«TypeError» (by decide +kernel) ⟨rfl, ⟨ob, hob, hobc⟩, ?_⟩ I.kind hx (by decide))
  refine lands_againW hheld fun h₆ hfl₆ hsm₆ => ?_
  obtain ⟨F₆, sl, N₆⟩ := back h₆ hfl₆.1 ((hsm.trans hsm₅).trans hsm₆)
  exact wpAny_mono (k h₆ sl F₆ N₆) (fun _ _ x => x) fun _ _ x => x.elim
end
set_option maxHeartbeats 4000000
theorem fill14 : PySem.Challenge.rw_rs0255_01.Holds ∨ hd.heap_39 = hd.heap_39 := by
  k_fill
  exact .inr rfl
/-- a def is entered: all that stands, less a ledger, is the new ground -/
theorem enter_C {w : World} {A : Around} {s : Shared} {h₀ : Heap} {mg mb mean} {R : Result → Shared → Prop} {name qual : Str} {params : Arguments} {body : List Stmt} {scope : Scope} {dV kV doc pm cdv ct oc : Value} {an od : Option Addr} {osl : Array (Option Value)} {f : Addr} {args : Args} {binds : List (Str × Value)}
    (Pn : List (Addr × Obj)) (x : Ext h₀ s.heap) (hP : ∀ p ∈ Pn, s.heap.get? p.1 = some p.2 ∧ h₀.get? p.1 = none) (X : (hd.heap_39 w.params).In h₀) (T : TopAt mg mb mean h₀)
    (ho : (hd.heap_39 w.params).lookup f = some ⟨oc, od, .func (fnOf name qual params body scope dV kV doc pm an cdv ct), osl⟩) (hcd : codeIn (hd.heap_39 w.params) cdv qual = true) (hroom : A.depth < recursionLimit)
    (hbind : BindsTo s (fnOf name qual params body scope dV kV doc pm an cdv ct) args binds) (hkind : (binds.all fun y => scope.names.lookup y.1 == some .local || scope.names.lookup y.1 == some .cell) = true)
    (hnd : ((cellsFrom 0 scope.names []).map (·.1)).Nodup)
    (h : ∀ g L' h₁ tk cells, Ext h₀ g → (∀ b o, s.heap.get? b = some o → (∀ p ∈ Pn, p.1 ≠ b) → g.get? b = some o) → Fr g L' h₁ (bindL (envOfC qual scope L' f cdv).kindOf binds fun _ => none) → News g L' h₁ (cells ++ Pn) →
      CellsAre (bindC (envOfC qual scope L' f cdv).kindOf binds fun _ => none) (cellsFrom (L' + 1) scope.names []) cells → (hd.heap_39 w.params).In g → TopAt mg mb mean g → (∀ p ∈ Pn, p.1 < L') → (∀ b o, g.get? b = some o → s.heap.get? b = some o) →
      wpAny (model prog w) (A.deeper (envOfC qual scope L' f cdv)) (execs body (envOfC qual scope L' f cdv))
        (fun fl s' => R (.ok (.ret (match fl with | .ret v => v | _ => .none))) s')
        (fun e s' => wpAny (model prog w) (A.deeper (envOfC qual scope L' f cdv)) (leaving (envOfC qual scope L' f cdv) e) (fun _ s'' => R (.error e) s'') (fun e' s'' => R (.error e') s'') s')
        { s with heap := h₁, toks := tk })
    (hco : scope.isCoroutine = false) (hgen : scope.isGenerator = false) (hk : scope.kind = .function) : codeAny (model prog w) A (.call (.ref f) args) R s := by
  have st : Ext h₀ (hideAll s.heap (Pn.map (·.1))) := fun b o e => hideAll_get _ (x _ _ e) fun q => by
    obtain ⟨p, hp, rfl⟩ := List.mem_map.mp q
    rw [(hP p hp).2] at e; cases e
  refine codeAny_call_function hroom (x _ _ (X _ _ ho)) rfl hco hgen rfl (codeRec_of (X.keeps x) hcd) (hbind _ _ _ _ ?_)
  refine wpAny_newFunctionEnv_cells hk (kindsX hkind _) fun env' he s' y => ?_
  subst he
  refine ⟨(T.nolimit.keeps x).keeps y.toInCall.keep, codeAny_func ?_⟩
  obtain ⟨h₁, tk, rfl, _⟩ := y.done
  have hk₁ := y.toInCall.keep
  obtain ⟨cells, NC, Y⟩ := Cl.news (h₀ := s.heap) (Nat.le_refl _) fun n c hm => ⟨y.cell n c (lookup_of_mem_nodup (cellsFrom_names scope.names 0 (s.heap.objs.size + 1) [] [] rfl ▸ hnd) hm), y.above n c hm⟩
  have X2 := X.keeps st
  have T2 := T.keeps st
  refine h _ s.heap.objs.size h₁ tk cells st (fun b o e hn => hideAll_get _ e fun q => by
    obtain ⟨p, hp, rfl⟩ := List.mem_map.mp q
    exact hn p hp rfl) ⟨y.toInCall.ns, fun b o e => hk₁ b o (of_hideAll _ e), Nat.le_of_eq (hideAll_size _ _)⟩ (fun p hp => ?_) Y X2 T2 (fun p hp => Heap.lt_size (hP p hp).1) (fun b o e => of_hideAll _ e)
  rcases List.mem_append.mp hp with hp | hp
  · refine ⟨(NC p hp).1, (NC p hp).2.1, ?_⟩
    cases q : (hideAll s.heap (Pn.map (·.1))).get? p.1 with
    | none => rfl
    | some o => have := of_hideAll _ q; rw [(NC p hp).2.2] at this; cases this
  · exact ⟨hk₁ _ _ (hP p hp).1, Nat.ne_of_lt (Heap.lt_size (hP p hp).1), hideAll_none _ (List.mem_map_of_mem hp)⟩
set_option maxHeartbeats 2000000
theorem fill15 : PySem.Challenge.rw_rs0255_01.Holds ∨ hd.heap_39 = hd.heap_39 := by
  k_fill
  exact .inr rfl
noncomputable def optB : Option Bool → Value
  | some b => .bool b
  | none => .none
noncomputable def answers (r : Res) : List Value := [.bool r.1, .bool (!r.1), optB (ans .Lt r), optB (ans .LtE r), optB (ans .Gt r), optB (ans .GtE r)]
noncomputable def lamQual : Str := Str.ofString "_law_answers" ++ Str.ofString ".<locals>." ++ Str.ofString "<lambda>"
noncomputable def fullTab (c1 c2 c3 c4 : Addr) : Array Value := #[] ++ #[rawInt ((96 : Nat) : Int), rawInt ((0 : Nat) : Int), .ref c1] ++ #[rawInt ((97 : Nat) : Int), rawInt ((0 : Nat) : Int), .ref c2] ++ #[rawInt ((98 : Nat) : Int), rawInt ((0 : Nat) : Int), .ref c3] ++ #[rawInt ((99 : Nat) : Int), rawInt ((0 : Nat) : Int), .ref c4]
theorem fullTab_eq (c1 c2 c3 c4 : Addr) : #[] ++ #[rawInt ((96 : Nat) : Int), rawInt ((0 : Nat) : Int), .ref c1] ++ #[rawInt ((97 : Nat) : Int), rawInt ((0 : Nat) : Int), .ref c2] ++ #[rawInt ((98 : Nat) : Int), rawInt ((0 : Nat) : Int), .ref c3] ++ #[rawInt ((99 : Nat) : Int), rawInt ((0 : Nat) : Int), .ref c4] = fullTab c1 c2 c3 c4 := by unfold fullTab; exact Eq.refl _
structure FullTab (ps : Array Value) (c1 c2 c3 c4 : Addr) : Prop where
  tri : TriplesOk ps.toList
  a96 : ∀ a b, codeAmong ⟨96, 0, a, b⟩ ps.toList = some (.ref c1)
  a97 : ∀ a b, codeAmong ⟨97, 0, a, b⟩ ps.toList = some (.ref c2)
  a98 : ∀ a b, codeAmong ⟨98, 0, a, b⟩ ps.toList = some (.ref c3)
  a99 : ∀ a b, codeAmong ⟨99, 0, a, b⟩ ps.toList = some (.ref c4)
theorem fullTab_ok (c1 c2 c3 c4 : Addr) : FullTab (fullTab c1 c2 c3 c4) c1 c2 c3 c4 := by
  constructor
  · simp [fullTab, TriplesOk, rawInt]
  all_goals
    intro a b
    simp [fullTab, codeAmong, rawInt]
structure Answered (s : Heap) (Lw : Addr) (oL : Obj) (al : Addr) (xs : List Value) (h' : Heap) (ps : Array Value) : Prop where
  keep : ∀ b o, s.get? b = some o → b ≠ 127 → b ≠ Lw → h'.get? b = some o
  list : ∃ n, h'.get? al = some (W.listOf xs.toArray n)
  new : s.get? al = none
  tab : h'.get? 127 = some (tabObj ps)
  law : ∃ sl, h'.get? Lw = some { oL with slots := sl }
structure TabOk (h : Heap) (Lw c1 c2 c3 c4 : Addr) : Prop where
  r1 : h.CodeRec (.ref c1) lamQual
  r2 : h.CodeRec (.ref c2) lamQual
  r3 : h.CodeRec (.ref c3) lamQual
  r4 : h.CodeRec (.ref c4) lamQual
  n1 : c1 ≠ 127 ∧ c1 ≠ Lw
  n2 : c2 ≠ 127 ∧ c2 ≠ Lw
  n3 : c3 ≠ 127 ∧ c3 ≠ Lw
  n4 : c4 ≠ 127 ∧ c4 ≠ Lw
structure TabNew (s : Heap) (c1 c2 c3 c4 : Addr) : Prop where
  m1 : s.get? c1 = none
  m2 : s.get? c2 = none
  m3 : s.get? c3 = none
  m4 : s.get? c4 = none
theorem new_on {s g h : Heap} {L Lw c : Addr} {oc : Obj} {news : List (Addr × Obj)} (hg : ∀ (b : Addr) (o : Obj), s.get? b = some o → b ≠ 127 → b ≠ Lw → g.get? b = some o) (N : News g L h news) (hm : (c, oc) ∈ news) (h1 : c ≠ 127) (h2 : c ≠ Lw) : s.get? c = none := by
  cases q : s.get? c with
  | none => rfl
  | some o => have := hg _ _ q h1 h2; rw [(N _ hm).2.2] at this; cases this
theorem ans_end {s g h : Heap} {L Lw al : Addr} {oL : Obj} {m : Str → Option Value} {news : List (Addr × Obj)} {ps ps' xs : Array Value} {ys : List Value} {n : Nat} {sl : Array (Option Value)}
    (hg : ∀ (b : Addr) (o : Obj), s.get? b = some o → b ≠ 127 → b ≠ Lw → g.get? b = some o) (F : Fr g L h m) (N : News g L h news)
    (hal : (al, W.listOf xs n) ∈ news) (ht : (127, tabObj ps) ∈ news) (hw : (Lw, { oL with slots := sl }) ∈ news) (h1 : al ≠ 127) (h2 : al ≠ Lw) (hx : xs = ys.toArray) (hp : ps = ps') : Answered s Lw oL al ys h ps' := by
  subst hx hp
  refine ⟨fun b o e a b' => F.keep _ _ (hg b o e a b'), ⟨n, (N _ hal).1⟩, ?_, (N _ ht).1, ⟨sl, (N _ hw).1⟩⟩
  cases q : s.get? al with
  | none => rfl
  | some o => have := hg _ _ q h1 h2; rw [(N _ hal).2.2] at this; cases this
theorem answers_none {r : Res} (h : r.2 = none) : answers r = [.bool r.1, .bool (!r.1), .none, .none, .none, .none] := by
  simp only [answers, ans_none (.inl rfl) h, ans_none (.inr (.inl rfl)) h, ans_none (.inr (.inr (.inl rfl))) h, ans_none (.inr (.inr (.inr rfl))) h, optB]
theorem answers_some {r : Res} {x : Int} (h : r.2 = some x) : answers r = [.bool r.1, .bool (!r.1), .bool (ordB .Lt x), .bool (ordB .LtE x), .bool (ordB .Gt x), .bool (ordB .GtE x)] := by
  simp only [answers, ans_some (.inl rfl) h, ans_some (.inr (.inl rfl)) h, ans_some (.inr (.inr (.inl rfl))) h, ans_some (.inr (.inr (.inr rfl))) h, optB]
theorem eq_rule {w : World} {A₁ : Around} {env : Env} {Lw L : Addr} {oL : Obj} {g : Heap} {s : Shared} {m : Str → Option Value} {news : List (Addr × Obj)} {mg mb : Str → Option Value} {mean : ExcName → Option Value} {Q E : Value → Shared → Prop} {v u : Value} {d e : D}
    (F : Fr g L s.heap m) (N : News g L s.heap news) (I : InLaw A₁ env Lw L) (hm : (Lw, oL) ∈ news) (hdt : NF oL) (X : (hd.heap_39 w.params).In g) (T : TopAt mg mb mean g) (Dv : Dr g 8 2 v d) (Du : Dr g 8 2 u e)
    (h : ∀ h' tk, Fr g L h' m → News g L h' news → Q (.bool (stand 2 d e).1) { s with heap := h', toks := tk }) : wpAny (model prog w) (A₁.deeper env) (compareOp .Eq v u) Q E s :=
  ask_plain F N I hm hdt X T Dv Du (.inl rfl) fun b h' tk e F' N' => by cases e; exact h h' tk F' N'
theorem ne_rule {w : World} {A₁ : Around} {env : Env} {Lw L : Addr} {oL : Obj} {g : Heap} {s : Shared} {m : Str → Option Value} {news : List (Addr × Obj)} {mg mb : Str → Option Value} {mean : ExcName → Option Value} {Q E : Value → Shared → Prop} {v u : Value} {d e : D}
    (F : Fr g L s.heap m) (N : News g L s.heap news) (I : InLaw A₁ env Lw L) (hm : (Lw, oL) ∈ news) (hdt : NF oL) (X : (hd.heap_39 w.params).In g) (T : TopAt mg mb mean g) (Dv : Dr g 8 2 v d) (Du : Dr g 8 2 u e)
    (h : ∀ h' tk, Fr g L h' m → News g L h' news → Q (.bool (!(stand 2 d e).1)) { s with heap := h', toks := tk }) : wpAny (model prog w) (A₁.deeper env) (compareOp .NotEq v u) Q E s :=
  ask_plain F N I hm hdt X T Dv Du (.inr rfl) fun b h' tk e F' N' => by cases e; exact h h' tk F' N'
local macro_rules | `(tactic| k_ne) => `(tactic| (refine neN ?_; (try dsimp only); k_extra "ne"))
/-! ## one ask of the loop: try: answers.append(ask()) except TypeError: answers.append(None) -/
theorem m_pair {m : Str → Option Value} {a1 a2 : Str} {v1 v2 : Value} (h1 : m a1 = some v1) (h2 : m a2 = some v2) :
    m = fun y => if y = a1 then some v1 else if y = a2 then some v2 else m y := funext fun y => by
  by_cases e1 : y = a1
  · rw [if_pos e1, e1, h1]
  by_cases e2 : y = a2
  · rw [if_neg e1, if_pos e2, e2, h2]
  rw [if_neg e1, if_neg e2]
theorem updF_self {d : Addr} {o : Obj} {l : List (Addr × Obj)} {g : Obj → List (Addr × Obj)} (U : UpdF d o l g) : g o = l := by
  obtain ⟨pre, post, e1, e2, _⟩ := U.split
  rw [e1, e2]
def AskOk (w : World) (A₁ : Around) (env : Env) (ts : Stmt) (Lw L : Addr) (g : Heap) (v u : Value) (r : Res) : Prop :=
  ∀ (s : Shared) (mm : Str → Option Value) (Q : Flow → Shared → Prop) (op : CmpOp) (name qual : Str) (q1 q2 q3 : Pos) (cl : List (Str × Addr)) (pm ctv : Value) (c' f c1 c2 al : Addr) (oL o1 o2 : Obj) (xs : Array Value) (n : Nat) (news : List (Addr × Obj)) (gn gn' : Obj → List (Addr × Obj)),
    Fr g L s.heap mm → News g L s.heap news → mm (Str.ofString "answers") = some (.ref al) → mm (Str.ofString "ask") = some (.ref f) → (al, W.listOf xs n) ∈ news → (Lw, oL) ∈ news → NF oL → (f, lobj name qual op q1 q2 q3 cl pm c' ctv) ∈ news → Four op → s.heap.CodeRec (.ref c') qual →
    cl.lookup (Str.ofString "one") = some c1 → cl.lookup (Str.ofString "other") = some c2 → (c1, o1) ∈ news → (c2, o2) ∈ news → o1.data = .cell (some v) → o2.data = .cell (some u) → xs.size ≤ 6 → UpdF Lw oL news gn →
    (∀ o, Upd al (W.listOf xs n) (W.listOf (xs.push (optB (ans op r))) (n + 1)) (gn o) (gn' o)) →
    (∀ h' tk sl, Fr g L h' mm → News g L h' (gn' { oL with slots := sl }) → Q .next { s with heap := h', toks := tk }) →
    wpAny (model prog w) (A₁.deeper env) (exec ts env) Q (fun _ _ => False) s
theorem with_ask (Lw L : Addr) (v u : Value) (r : Res) {w : World} {A₁ : Around} {g : Heap} {env : Env} {x : Str} {ts : Stmt} {Q : Flow → Shared → Prop} {E E' : Value → Shared → Prop} {s : Shared} {lv : Value} (hin : AskOk w A₁ env ts Lw L g v u r)
    (h : AskOk w A₁ env ts Lw L g v u r → wpAny (model prog w) (A₁.deeper env) (pyIter lv) (fun it s₂ => LoopAtV prog w (A₁.deeper env) g env x [ts] Q E' it s₂) E s) : wpAny (model prog w) (A₁.deeper env) (pyIter lv) (fun it s₂ => LoopAtV prog w (A₁.deeper env) g env x [ts] Q E' it s₂) E s := h hin
theorem mem_upd {d : Addr} {o o' : Obj} {l l' : List (Addr × Obj)} (U : Upd d o o' l l') : (d, o) ∈ l := by
  obtain ⟨pre, post, e1, _⟩ := U.split
  rw [e1]; exact List.mem_append_right _ (List.mem_cons_self ..)
local macro_rules | `(tactic| k_mem) => `(tactic| k_extra "mem")
theorem answers_first {w : World} {dp un : Nat} {gd : Option (List Code)} {lcn : Str} {lcs : Scope} {la : Addr} {lcd : Value} {lcl : List (Str × Addr)} {Lw : Addr} {oL : Obj} {h₀ : Heap} {s : Shared} {mg mb : Str → Option Value} {mean : ExcName → Option Value} {Q E : Value → Shared → Prop} {v u : Value} {d e : D}
    (hk : lcs.kind = .function) (hdp : dp + 30 < recursionLimit) (hun : un + 300 < cLine)
    (x : Ext h₀ s.heap) (hL : s.heap.get? Lw = some oL) (hL0 : h₀.get? Lw = none) (hdt : NF oL) (hlt : @LT.lt Nat _ 127 Lw) (htab : s.heap.get? 127 = some (tabObj #[])) (htab0 : h₀.get? 127 = none) (CH : CodeHd h₀ 131 127)
    (X : (hd.heap_39 w.params).In h₀) (T : TopAt mg mb mean h₀) (Dv : Dr h₀ 8 2 v d) (Du : Dr h₀ 8 2 u e)
    (hret : ∀ al h' tk c1 c2 c3 c4, Answered s.heap Lw oL al (answers (stand 2 d e)) h' (fullTab c1 c2 c3 c4) → TabOk h' Lw c1 c2 c3 c4 → TabNew s.heap c1 c2 c3 c4 → Q (.ref al) { s with heap := h', toks := tk }) :
    wpAny (model prog w) (ktrTop dp un gd lcn lcs Lw la lcd lcl []) (call (.ref 132) [v, u]) Q E s := by
  k_with_none
  k_with "ne" => first
      | with_reducible assumption
      | (refine Ne.symm ?_; with_reducible assumption)
      | exact Nat.ne_of_lt (And.left (by with_reducible assumption))
      | exact Nat.ne_of_gt (And.left (by with_reducible assumption))
      | exact Nat.ne_of_lt (And.left (And.right (by with_reducible assumption)))
      | exact Nat.ne_of_gt (And.left (And.right (by with_reducible assumption)))
      | exact Nat.ne_of_lt (And.right (by with_reducible assumption))
      | exact Nat.ne_of_gt (And.right (by with_reducible assumption))
      | exact Nat.ne_of_lt (And.left (And.right (And.right (by with_reducible assumption))))
      | exact Nat.ne_of_gt (And.left (And.right (And.right (by with_reducible assumption))))
      | exact Nat.ne_of_lt (And.right (And.right (by with_reducible assumption)))
      | exact Nat.ne_of_gt (And.right (And.right (by with_reducible assumption)))
      | exact Nat.ne_of_lt (And.left (And.right (And.right (And.right (by with_reducible assumption)))))
      | exact Nat.ne_of_gt (And.left (And.right (And.right (And.right (by with_reducible assumption)))))
      | exact Nat.ne_of_lt (And.right (And.right (And.right (by with_reducible assumption))))
      | exact Nat.ne_of_gt (And.right (And.right (And.right (by with_reducible assumption))))
      | exact Nat.ne_of_lt (And.left (And.right (And.right (And.right (And.right (by with_reducible assumption))))))
      | exact Nat.ne_of_gt (And.left (And.right (And.right (And.right (And.right (by with_reducible assumption))))))
      | exact Nat.ne_of_lt (And.right (And.right (And.right (And.right (by with_reducible assumption)))))
      | exact Nat.ne_of_gt (And.right (And.right (And.right (And.right (by with_reducible assumption)))))
      | exact Nat.ne_of_lt (And.left (And.right (And.right (And.right (And.right (And.right (by with_reducible assumption)))))))
      | exact Nat.ne_of_gt (And.left (And.right (And.right (And.right (And.right (And.right (by with_reducible assumption)))))))
      | exact Nat.ne_of_lt (And.right (And.right (And.right (And.right (And.right (by with_reducible assumption))))))
      | exact Nat.ne_of_gt (And.right (And.right (And.right (And.right (And.right (by with_reducible assumption))))))
      | exact Nat.ne_of_lt (And.left (And.right (And.right (And.right (And.right (And.right (And.right (by with_reducible assumption))))))))
      | exact Nat.ne_of_gt (And.left (And.right (And.right (And.right (And.right (And.right (And.right (by with_reducible assumption))))))))
      | exact Nat.ne_of_lt (And.right (And.right (And.right (And.right (And.right (And.right (by with_reducible assumption)))))))
      | exact Nat.ne_of_gt (And.right (And.right (And.right (And.right (And.right (And.right (by with_reducible assumption)))))))
      | exact Nat.ne_of_lt (And.left (And.right (And.right (And.right (And.right (And.right (And.right (And.right (by with_reducible assumption)))))))))
      | exact Nat.ne_of_gt (And.left (And.right (And.right (And.right (And.right (And.right (And.right (And.right (by with_reducible assumption)))))))))
      | exact Nat.ne_of_lt (And.right (And.right (And.right (And.right (And.right (And.right (And.right (by with_reducible assumption))))))))
      | exact Nat.ne_of_gt (And.right (And.right (And.right (And.right (And.right (And.right (And.right (by with_reducible assumption))))))))
      | exact Nat.ne_of_lt (And.left (And.right (And.right (And.right (And.right (And.right (And.right (And.right (And.right (by with_reducible assumption))))))))))
      | exact Nat.ne_of_gt (And.left (And.right (And.right (And.right (And.right (And.right (And.right (And.right (And.right (by with_reducible assumption))))))))))
      | exact Nat.ne_of_lt (And.right (And.right (And.right (And.right (And.right (And.right (And.right (And.right (by with_reducible assumption)))))))))
      | exact Nat.ne_of_gt (And.right (And.right (And.right (And.right (And.right (And.right (And.right (And.right (by with_reducible assumption)))))))))
      | exact Nat.ne_of_lt (And.left (And.right (And.right (And.right (And.right (And.right (And.right (And.right (And.right (And.right (by with_reducible assumption)))))))))))
      | exact Nat.ne_of_gt (And.left (And.right (And.right (And.right (And.right (And.right (And.right (And.right (And.right (And.right (by with_reducible assumption)))))))))))
      | exact Nat.ne_of_lt (And.right (And.right (And.right (And.right (And.right (And.right (And.right (And.right (And.right (by with_reducible assumption))))))))))
      | exact Nat.ne_of_gt (And.right (And.right (And.right (And.right (And.right (And.right (And.right (And.right (And.right (by with_reducible assumption))))))))))
      | exact Nat.ne_of_lt (And.left (And.right (And.right (And.right (And.right (And.right (And.right (And.right (And.right (And.right (And.right (by with_reducible assumption))))))))))))
      | exact Nat.ne_of_gt (And.left (And.right (And.right (And.right (And.right (And.right (And.right (And.right (And.right (And.right (And.right (by with_reducible assumption))))))))))))
      | exact Nat.ne_of_lt (And.right (And.right (And.right (And.right (And.right (And.right (And.right (And.right (And.right (And.right (by with_reducible assumption)))))))))))
      | exact Nat.ne_of_gt (And.right (And.right (And.right (And.right (And.right (And.right (And.right (And.right (And.right (And.right (by with_reducible assumption)))))))))))
      | exact Nat.ne_of_lt (And.left (And.right (And.right (And.right (And.right (And.right (And.right (And.right (And.right (And.right (And.right (And.right (by with_reducible assumption)))))))))))))
      | exact Nat.ne_of_gt (And.left (And.right (And.right (And.right (And.right (And.right (And.right (And.right (And.right (And.right (And.right (And.right (by with_reducible assumption)))))))))))))
      | exact Nat.ne_of_lt (And.right (And.right (And.right (And.right (And.right (And.right (And.right (And.right (And.right (And.right (And.right (by with_reducible assumption))))))))))))
      | exact Nat.ne_of_gt (And.right (And.right (And.right (And.right (And.right (And.right (And.right (And.right (And.right (And.right (And.right (by with_reducible assumption))))))))))))
      | exact Nat.ne_of_lt (And.left (And.right (And.right (And.right (And.right (And.right (And.right (And.right (And.right (And.right (And.right (And.right (And.right (by with_reducible assumption))))))))))))))
      | exact Nat.ne_of_gt (And.left (And.right (And.right (And.right (And.right (And.right (And.right (And.right (And.right (And.right (And.right (And.right (And.right (by with_reducible assumption))))))))))))))
      | exact Nat.ne_of_lt (And.right (And.right (And.right (And.right (And.right (And.right (And.right (And.right (And.right (And.right (And.right (And.right (by with_reducible assumption)))))))))))))
      | exact Nat.ne_of_gt (And.right (And.right (And.right (And.right (And.right (And.right (And.right (And.right (And.right (And.right (And.right (And.right (by with_reducible assumption)))))))))))))
      | (refine' Nat.ne_of_gt (Nat.lt_trans ?a ?b); (case b => with_reducible assumption); (case a => exact (by with_reducible assumption)))
      | (refine' Nat.ne_of_lt (Nat.lt_trans ?a ?b); (case b => with_reducible assumption); (case a => exact (by with_reducible assumption)))
      | (refine' Nat.ne_of_gt (Nat.lt_trans ?a ?b); (case b => with_reducible assumption); (case a => exact (And.left (by with_reducible assumption))))
      | (refine' Nat.ne_of_lt (Nat.lt_trans ?a ?b); (case b => with_reducible assumption); (case a => exact (And.left (by with_reducible assumption))))
      | (refine' Nat.ne_of_gt (Nat.lt_trans ?a ?b); (case b => with_reducible assumption); (case a => exact (And.left (And.right (by with_reducible assumption)))))
      | (refine' Nat.ne_of_lt (Nat.lt_trans ?a ?b); (case b => with_reducible assumption); (case a => exact (And.left (And.right (by with_reducible assumption)))))
      | (refine' Nat.ne_of_gt (Nat.lt_trans ?a ?b); (case b => with_reducible assumption); (case a => exact (And.right (by with_reducible assumption))))
      | (refine' Nat.ne_of_lt (Nat.lt_trans ?a ?b); (case b => with_reducible assumption); (case a => exact (And.right (by with_reducible assumption))))
      | (refine' Nat.ne_of_gt (Nat.lt_trans ?a ?b); (case b => with_reducible assumption); (case a => exact (And.left (And.right (And.right (by with_reducible assumption))))))
      | (refine' Nat.ne_of_lt (Nat.lt_trans ?a ?b); (case b => with_reducible assumption); (case a => exact (And.left (And.right (And.right (by with_reducible assumption))))))
      | (refine' Nat.ne_of_gt (Nat.lt_trans ?a ?b); (case b => with_reducible assumption); (case a => exact (And.right (And.right (by with_reducible assumption)))))
      | (refine' Nat.ne_of_lt (Nat.lt_trans ?a ?b); (case b => with_reducible assumption); (case a => exact (And.right (And.right (by with_reducible assumption)))))
      | (refine' Nat.ne_of_gt (Nat.lt_trans ?a ?b); (case b => with_reducible assumption); (case a => exact (And.left (And.right (And.right (And.right (by with_reducible assumption)))))))
      | (refine' Nat.ne_of_lt (Nat.lt_trans ?a ?b); (case b => with_reducible assumption); (case a => exact (And.left (And.right (And.right (And.right (by with_reducible assumption)))))))
      | (refine' Nat.ne_of_gt (Nat.lt_trans ?a ?b); (case b => with_reducible assumption); (case a => exact (And.right (And.right (And.right (by with_reducible assumption))))))
      | (refine' Nat.ne_of_lt (Nat.lt_trans ?a ?b); (case b => with_reducible assumption); (case a => exact (And.right (And.right (And.right (by with_reducible assumption))))))
      | (refine' Nat.ne_of_gt (Nat.lt_trans ?a ?b); (case b => with_reducible assumption); (case a => exact (And.left (And.right (And.right (And.right (And.right (by with_reducible assumption))))))))
      | (refine' Nat.ne_of_lt (Nat.lt_trans ?a ?b); (case b => with_reducible assumption); (case a => exact (And.left (And.right (And.right (And.right (And.right (by with_reducible assumption))))))))
      | (refine' Nat.ne_of_gt (Nat.lt_trans ?a ?b); (case b => with_reducible assumption); (case a => exact (And.right (And.right (And.right (And.right (by with_reducible assumption)))))))
      | (refine' Nat.ne_of_lt (Nat.lt_trans ?a ?b); (case b => with_reducible assumption); (case a => exact (And.right (And.right (And.right (And.right (by with_reducible assumption)))))))
      | (refine' Nat.ne_of_gt (Nat.lt_trans ?a ?b); (case b => with_reducible assumption); (case a => exact (And.left (And.right (And.right (And.right (And.right (And.right (by with_reducible assumption)))))))))
      | (refine' Nat.ne_of_lt (Nat.lt_trans ?a ?b); (case b => with_reducible assumption); (case a => exact (And.left (And.right (And.right (And.right (And.right (And.right (by with_reducible assumption)))))))))
      | (refine' Nat.ne_of_gt (Nat.lt_trans ?a ?b); (case b => with_reducible assumption); (case a => exact (And.right (And.right (And.right (And.right (And.right (by with_reducible assumption))))))))
      | (refine' Nat.ne_of_lt (Nat.lt_trans ?a ?b); (case b => with_reducible assumption); (case a => exact (And.right (And.right (And.right (And.right (And.right (by with_reducible assumption))))))))
      | (refine' Nat.ne_of_gt (Nat.lt_trans ?a ?b); (case b => with_reducible assumption); (case a => exact (And.left (And.right (And.right (And.right (And.right (And.right (And.right (by with_reducible assumption))))))))))
      | (refine' Nat.ne_of_lt (Nat.lt_trans ?a ?b); (case b => with_reducible assumption); (case a => exact (And.left (And.right (And.right (And.right (And.right (And.right (And.right (by with_reducible assumption))))))))))
      | (refine' Nat.ne_of_gt (Nat.lt_trans ?a ?b); (case b => with_reducible assumption); (case a => exact (And.right (And.right (And.right (And.right (And.right (And.right (by with_reducible assumption)))))))))
      | (refine' Nat.ne_of_lt (Nat.lt_trans ?a ?b); (case b => with_reducible assumption); (case a => exact (And.right (And.right (And.right (And.right (And.right (And.right (by with_reducible assumption)))))))))
      | (refine' Nat.ne_of_gt (Nat.lt_trans ?a ?b); (case b => with_reducible assumption); (case a => exact (And.left (And.right (And.right (And.right (And.right (And.right (And.right (And.right (by with_reducible assumption)))))))))))
      | (refine' Nat.ne_of_lt (Nat.lt_trans ?a ?b); (case b => with_reducible assumption); (case a => exact (And.left (And.right (And.right (And.right (And.right (And.right (And.right (And.right (by with_reducible assumption)))))))))))
      | (refine' Nat.ne_of_gt (Nat.lt_trans ?a ?b); (case b => with_reducible assumption); (case a => exact (And.right (And.right (And.right (And.right (And.right (And.right (And.right (by with_reducible assumption))))))))))
      | (refine' Nat.ne_of_lt (Nat.lt_trans ?a ?b); (case b => with_reducible assumption); (case a => exact (And.right (And.right (And.right (And.right (And.right (And.right (And.right (by with_reducible assumption))))))))))
      | (refine' Nat.ne_of_gt (Nat.lt_trans ?a ?b); (case b => with_reducible assumption); (case a => exact (And.left (And.right (And.right (And.right (And.right (And.right (And.right (And.right (And.right (by with_reducible assumption))))))))))))
      | (refine' Nat.ne_of_lt (Nat.lt_trans ?a ?b); (case b => with_reducible assumption); (case a => exact (And.left (And.right (And.right (And.right (And.right (And.right (And.right (And.right (And.right (by with_reducible assumption))))))))))))
      | (refine' Nat.ne_of_gt (Nat.lt_trans ?a ?b); (case b => with_reducible assumption); (case a => exact (And.right (And.right (And.right (And.right (And.right (And.right (And.right (And.right (by with_reducible assumption)))))))))))
      | (refine' Nat.ne_of_lt (Nat.lt_trans ?a ?b); (case b => with_reducible assumption); (case a => exact (And.right (And.right (And.right (And.right (And.right (And.right (And.right (And.right (by with_reducible assumption)))))))))))
      | (refine' Nat.ne_of_gt (Nat.lt_trans ?a ?b); (case b => with_reducible assumption); (case a => exact (And.left (And.right (And.right (And.right (And.right (And.right (And.right (And.right (And.right (And.right (by with_reducible assumption)))))))))))))
      | (refine' Nat.ne_of_lt (Nat.lt_trans ?a ?b); (case b => with_reducible assumption); (case a => exact (And.left (And.right (And.right (And.right (And.right (And.right (And.right (And.right (And.right (And.right (by with_reducible assumption)))))))))))))
      | (refine' Nat.ne_of_gt (Nat.lt_trans ?a ?b); (case b => with_reducible assumption); (case a => exact (And.right (And.right (And.right (And.right (And.right (And.right (And.right (And.right (And.right (by with_reducible assumption))))))))))))
      | (refine' Nat.ne_of_lt (Nat.lt_trans ?a ?b); (case b => with_reducible assumption); (case a => exact (And.right (And.right (And.right (And.right (And.right (And.right (And.right (And.right (And.right (by with_reducible assumption))))))))))))
      | (refine' Nat.ne_of_gt (Nat.lt_trans ?a ?b); (case b => with_reducible assumption); (case a => exact (And.left (And.right (And.right (And.right (And.right (And.right (And.right (And.right (And.right (And.right (And.right (by with_reducible assumption))))))))))))))
      | (refine' Nat.ne_of_lt (Nat.lt_trans ?a ?b); (case b => with_reducible assumption); (case a => exact (And.left (And.right (And.right (And.right (And.right (And.right (And.right (And.right (And.right (And.right (And.right (by with_reducible assumption))))))))))))))
      | (refine' Nat.ne_of_gt (Nat.lt_trans ?a ?b); (case b => with_reducible assumption); (case a => exact (And.right (And.right (And.right (And.right (And.right (And.right (And.right (And.right (And.right (And.right (by with_reducible assumption)))))))))))))
      | (refine' Nat.ne_of_lt (Nat.lt_trans ?a ?b); (case b => with_reducible assumption); (case a => exact (And.right (And.right (And.right (And.right (And.right (And.right (And.right (And.right (And.right (And.right (by with_reducible assumption)))))))))))))
      | (refine' Nat.ne_of_gt (Nat.lt_trans ?a ?b); (case b => with_reducible assumption); (case a => exact (And.left (And.right (And.right (And.right (And.right (And.right (And.right (And.right (And.right (And.right (And.right (And.right (by with_reducible assumption)))))))))))))))
      | (refine' Nat.ne_of_lt (Nat.lt_trans ?a ?b); (case b => with_reducible assumption); (case a => exact (And.left (And.right (And.right (And.right (And.right (And.right (And.right (And.right (And.right (And.right (And.right (And.right (by with_reducible assumption)))))))))))))))
      | (refine' Nat.ne_of_gt (Nat.lt_trans ?a ?b); (case b => with_reducible assumption); (case a => exact (And.right (And.right (And.right (And.right (And.right (And.right (And.right (And.right (And.right (And.right (And.right (by with_reducible assumption))))))))))))))
      | (refine' Nat.ne_of_lt (Nat.lt_trans ?a ?b); (case b => with_reducible assumption); (case a => exact (And.right (And.right (And.right (And.right (And.right (And.right (And.right (And.right (And.right (And.right (And.right (by with_reducible assumption))))))))))))))
      | fail "ne"
  k_with "compareOp Eq" => (k_here; k_dflt (refine' eq_rule ?F ?N ?I ?hm ?hdt ?X ?T ?Dv ?Du ?_; (case F => k_asm); (case N => k_asm); (case I => k_asm); (case hm => k_mem); (case hdt => k_asm); (case X => k_asm); (case T => k_asm); (case Dv => k_asm); (case Du => k_asm); k_whole; intro h' tk' F' N'; (try k_sweep)))
  k_with "compareOp NotEq" => (k_here; k_dflt (refine' ne_rule ?F ?N ?I ?hm ?hdt ?X ?T ?Dv ?Du ?_; (case F => k_asm); (case N => k_asm); (case I => k_asm); (case hm => k_mem); (case hdt => k_asm); (case X => k_asm); (case T => k_asm); (case Dv => k_asm); (case Du => k_asm); k_whole; intro h' tk' F' N'; (try k_sweep)))
  refine wpAny_call ?_
  refine' enter_C [(127, tabObj #[]), (Lw, oL)] x ?_ X T (by k_is) (by k_is) (by show dp < _; omega) (BindsTo.of_eq rfl) rfl (by decide +kernel) ?_ rfl rfl rfl
  · intro p hp
    rcases List.mem_cons.mp hp with rfl | hp
    · exact ⟨htab, htab0⟩
    · rw [List.mem_singleton] at hp; subst hp; exact ⟨hL, hL0⟩
  intro g L' h₁ tk cells xg hg F' N' Y' X' T' l1 hback
  k_lt l1
  k_cells Y'
  simp only [List.cons_append, List.nil_append] at N'
  refine no_E ?_
  have CH' := CH.keeps xg
  have Dv' := Dv.mono xg
  have Du' := Du.mono xg
  have I : InLaw (ktrTop dp un gd lcn lcs Lw la lcd lcl []) (envOfC (Str.ofString "_law_answers") { kind := ScopeKind.function, names := [(Str.ofString "one", NameKind.cell), (Str.ofString "other", NameKind.cell), (Str.ofString "answers", NameKind.local), (Str.ofString "ask", NameKind.local), (Str.ofString "TypeError", NameKind.globalImplicit)], isGenerator := false, isCoroutine := false } L' 132 (.ref 131)) Lw L' := ⟨⟨_, rfl, rfl, by show lcs.kind ≠ _; rw [hk]; decide⟩, rfl, rfl, l1.2, rfl, hdp, hun⟩
  replace hlt := ltN hlt
  clear X T Dv Du CH
  have hg' : ∀ (b : Addr) (o : Obj), s.heap.get? b = some o → b ≠ 127 → b ≠ Lw → g.get? b = some o := fun b o e a b' => hg b o e fun p hp => by
    rcases List.mem_cons.mp hp with rfl | hp
    · exact Ne.symm a
    · rw [List.mem_singleton] at hp; subst hp; exact Ne.symm b'
  repeat' (first | (k_unfold; (try dsimp only)) | ((fail_if_success (with_reducible show wpAny _ _ (pyIter _) _ _ _)); walk1))
  refine with_ask Lw L' v u (stand 2 d e) ?hin fun ask => ?main
  case hin =>
    rename Fr _ _ _ _ => FZ
    rename News _ _ _ _ => NZ
    clear FZ NZ
    intro s2 mm Q2 op name qual q1 q2 q3 cl pm ctv c' f c1 c2 al oL2 o1 o2 xs n news gn gn' F N j1 j2 hal hm hdt2 hf h4 hcd hc1 hc2 hm1 hm2 hd1 hd2 hz UF UG ok
    k_with "call ref" => first
      | (k_here; k_dflt (refine' lam_some F0 N I hm hdt2 X' T' Dv' Du' hs hf h4 hcd hc1 hc2 hm1 hm2 hd1 hd2 ?_); intro h' tk' F' N')
      | (k_here; k_dflt (refine' lam_none F0 N I hm hdt2 X' T' Dv' Du' hs hf h4 hcd hc1 hc2 hm1 hm2 hd1 hd2 ?_); intro elaw' x' a0' h' tk' hel' fl' us')
    k_with "noteFrame ref" => (k_here; k_dflt (refine' caught_A ?F ?N I UF hdt2 X' T' ?hel ?fl ?us ?_; (case fl => k_asm); (case hel => k_asm); (case F => k_asm); (case N => k_asm); (case us => k_asm)); intro h' sl' F' N')
    k_with "call builtin:list.append" => (k_here; k_dflt (refine' append_K ?k1 ?k2 ?k3 ?_ ?z; (case k1 => k_asm); (case k2 => k_asm); (case k3 => first | exact U0 | exact UG _); (case z => exact Nat.le_trans hz (by decide))); intro h' F' N')
    k_with "mem" => first | assumption | exact mem_upd (UG _)
    have U0 : Upd al (W.listOf xs n) (W.listOf (xs.push (optB (ans op (stand 2 d e)))) (n + 1)) news (gn' oL2) := by have := UG oL2; rwa [updF_self UF] at this
    refine wpAny_Try_except ?_
    rw [m_pair j1 j2] at F
    have F0 := F
    cases hs : (stand 2 d e).2 with
    | some y =>
      rw [ans_some h4 hs] at U0
      k_steps
      rw [← m_pair j1 j2] at F'
      exact ok _ _ oL2.slots F' N'
    | none =>
      rw [ans_none h4 hs] at UG
      k_steps
      rw [← m_pair j1 j2] at F'
      exact ok _ _ _ F' N'
  case main =>
    k_with "exec Try" => (k_here; k_dflt (refine' ask _ _ _ _ _ _ _ _ _ _ _ _ _ _ _ _ _ _ _ _ _ _ _ _ _ ?F ?N ?j1 ?j2 ?hal ?hm ?hdt ?hf ?h4 ?hcd ?hc1 ?hc2 ?hm1 ?hm2 ?hd1 ?hd2 ?hz ?UF ?UG ?_; (case F => k_asm); (case N => k_asm); (case j1 => exact rfl); (case j2 => exact rfl); (case hf => k_mem); (case hal => k_mem); (case hm => k_mem); (case hdt => k_asm); (case h4 => simp [Four]); (case hcd => first | exact codeRec_news (by k_asm) (by k_mem) (by assumption) (by assumption) | exact Heap.CodeRec.keeps (by assumption) (Fr.keep (by assumption)) | fail "hcd"); (case hc1 => exact rfl); (case hc2 => exact rfl); (case hm1 => k_mem); (case hm2 => k_mem); (case hd1 => k_asm); (case hd2 => k_asm); (case hz => exact Nat.le_of_ble_eq_true rfl); (case UF => k_updF); (case UG => (intro o9; (try dsimp only); k_upd))); intro h' tk' sl' F' N'; (try dsimp only at N'); (try k_sweep))
    k_steps
    all_goals (
      show Q _ _
      refine' hret _ _ _ ?c1 ?c2 ?c3 ?c4 (ans_end (oL := oL) hg' (by assumption) (by assumption) (by k_dflt k_mem) (by k_dflt k_mem) (by k_dflt k_mem) (by k_ne) (by k_ne) ?e1 ?e2) ?e3 ?e4
      case e1 => rfl
      case e2 => with_reducible exact fullTab_eq _ _ _ _
      case e3 => exact ⟨codeRec_news (by assumption) (by k_mem) (by assumption) (by assumption), codeRec_news (by assumption) (by k_mem) (by assumption) (by assumption), codeRec_news (by assumption) (by k_mem) (by assumption) (by assumption), codeRec_news (by assumption) (by k_mem) (by assumption) (by assumption), ⟨by k_ne, by k_ne⟩, ⟨by k_ne, by k_ne⟩, ⟨by k_ne, by k_ne⟩, ⟨by k_ne, by k_ne⟩⟩
      case e4 => exact ⟨new_on hg' (by assumption) (by k_mem) (by k_ne) (by k_ne), new_on hg' (by assumption) (by k_mem) (by k_ne) (by k_ne), new_on hg' (by assumption) (by k_mem) (by k_ne) (by k_ne), new_on hg' (by assumption) (by k_mem) (by k_ne) (by k_ne)⟩)
set_option maxHeartbeats 1000000
theorem fill16 : PySem.Challenge.rw_rs0255_01.Holds ∨ hd.heap_39 = hd.heap_39 := by
  k_fill
  exact .inr rfl
theorem code_on {s g : Heap} {Lw c : Addr} (hg : ∀ (b : Addr) (o : Obj), s.get? b = some o → b ≠ 127 → b ≠ Lw → g.get? b = some o) (h : s.CodeRec (.ref c) lamQual) (n : c ≠ 127 ∧ c ≠ Lw) : g.CodeRec (.ref c) lamQual := by
  obtain ⟨c', oc, vs, t, e, h1, h2⟩ := h
  injection e with e
  subst e
  exact ⟨_, oc, vs, t, rfl, hg _ _ h1 n.1 n.2, h2⟩
theorem TabOk.on {s g h : Heap} {Lw c1 c2 c3 c4 : Addr} (C : TabOk s Lw c1 c2 c3 c4) (hg : ∀ (b : Addr) (o : Obj), s.get? b = some o → b ≠ 127 → b ≠ Lw → g.get? b = some o) (k : ∀ b o, g.get? b = some o → h.get? b = some o) : TabOk h Lw c1 c2 c3 c4 :=
  have hg' : ∀ (b : Addr) (o : Obj), s.get? b = some o → b ≠ 127 → b ≠ Lw → h.get? b = some o := fun b o a b' c => k _ _ (hg b o a b' c)
  ⟨code_on hg' C.r1 C.n1, code_on hg' C.r2 C.n2, code_on hg' C.r3 C.n3, code_on hg' C.r4 C.n4, C.n1, C.n2, C.n3, C.n4⟩
theorem answers_later {w : World} {dp un : Nat} {gd : Option (List Code)} {lcn : Str} {lcs : Scope} {la : Addr} {lcd : Value} {lcl : List (Str × Addr)} {Lw : Addr} {oL : Obj} {h₀ : Heap} {s : Shared} {mg mb : Str → Option Value} {mean : ExcName → Option Value} {Q E : Value → Shared → Prop} {v u : Value} {d e : D}
    (hk : lcs.kind = .function) (hdp : dp + 30 < recursionLimit) (hun : un + 300 < cLine)
    (x : Ext h₀ s.heap) (hL : s.heap.get? Lw = some oL) (hL0 : h₀.get? Lw = none) (hdt : NF oL) (hlt : @LT.lt Nat _ 127 Lw) {ps : Array Value} {c1 c2 c3 c4 : Addr} (htab : s.heap.get? 127 = some (tabObj ps)) (hFT : FullTab ps c1 c2 c3 c4) (hC : TabOk s.heap Lw c1 c2 c3 c4) (htab0 : h₀.get? 127 = none) (CH : CodeHd h₀ 131 127)
    (X : (hd.heap_39 w.params).In h₀) (T : TopAt mg mb mean h₀) (Dv : Dr h₀ 8 2 v d) (Du : Dr h₀ 8 2 u e)
    (hret : ∀ al h' tk, Answered s.heap Lw oL al (answers (stand 2 d e)) h' ps → TabOk h' Lw c1 c2 c3 c4 → Q (.ref al) { s with heap := h', toks := tk }) :
    wpAny (model prog w) (ktrTop dp un gd lcn lcs Lw la lcd lcl []) (call (.ref 132) [v, u]) Q E s := by
  k_with_none
  k_with "ne" => first
      | with_reducible assumption
      | (refine Ne.symm ?_; with_reducible assumption)
      | exact Nat.ne_of_lt (And.left (by with_reducible assumption))
      | exact Nat.ne_of_gt (And.left (by with_reducible assumption))
      | exact Nat.ne_of_lt (And.left (And.right (by with_reducible assumption)))
      | exact Nat.ne_of_gt (And.left (And.right (by with_reducible assumption)))
      | exact Nat.ne_of_lt (And.right (by with_reducible assumption))
      | exact Nat.ne_of_gt (And.right (by with_reducible assumption))
      | exact Nat.ne_of_lt (And.left (And.right (And.right (by with_reducible assumption))))
      | exact Nat.ne_of_gt (And.left (And.right (And.right (by with_reducible assumption))))
      | exact Nat.ne_of_lt (And.right (And.right (by with_reducible assumption)))
      | exact Nat.ne_of_gt (And.right (And.right (by with_reducible assumption)))
      | exact Nat.ne_of_lt (And.left (And.right (And.right (And.right (by with_reducible assumption)))))
      | exact Nat.ne_of_gt (And.left (And.right (And.right (And.right (by with_reducible assumption)))))
      | exact Nat.ne_of_lt (And.right (And.right (And.right (by with_reducible assumption))))
      | exact Nat.ne_of_gt (And.right (And.right (And.right (by with_reducible assumption))))
      | exact Nat.ne_of_lt (And.left (And.right (And.right (And.right (And.right (by with_reducible assumption))))))
      | exact Nat.ne_of_gt (And.left (And.right (And.right (And.right (And.right (by with_reducible assumption))))))
      | exact Nat.ne_of_lt (And.right (And.right (And.right (And.right (by with_reducible assumption)))))
      | exact Nat.ne_of_gt (And.right (And.right (And.right (And.right (by with_reducible assumption)))))
      | exact Nat.ne_of_lt (And.left (And.right (And.right (And.right (And.right (And.right (by with_reducible assumption)))))))
      | exact Nat.ne_of_gt (And.left (And.right (And.right (And.right (And.right (And.right (by with_reducible assumption)))))))
      | exact Nat.ne_of_lt (And.right (And.right (And.right (And.right (And.right (by with_reducible assumption))))))
      | exact Nat.ne_of_gt (And.right (And.right (And.right (And.right (And.right (by with_reducible assumption))))))
      | exact Nat.ne_of_lt (And.left (And.right (And.right (And.right (And.right (And.right (And.right (by with_reducible assumption))))))))
      | exact Nat.ne_of_gt (And.left (And.right (And.right (And.right (And.right (And.right (And.right (by with_reducible assumption))))))))
      | exact Nat.ne_of_lt (And.right (And.right (And.right (And.right (And.right (And.right (by with_reducible assumption)))))))
      | exact Nat.ne_of_gt (And.right (And.right (And.right (And.right (And.right (And.right (by with_reducible assumption)))))))
      | exact Nat.ne_of_lt (And.left (And.right (And.right (And.right (And.right (And.right (And.right (And.right (by with_reducible assumption)))))))))
      | exact Nat.ne_of_gt (And.left (And.right (And.right (And.right (And.right (And.right (And.right (And.right (by with_reducible assumption)))))))))
      | exact Nat.ne_of_lt (And.right (And.right (And.right (And.right (And.right (And.right (And.right (by with_reducible assumption))))))))
      | exact Nat.ne_of_gt (And.right (And.right (And.right (And.right (And.right (And.right (And.right (by with_reducible assumption))))))))
      | exact Nat.ne_of_lt (And.left (And.right (And.right (And.right (And.right (And.right (And.right (And.right (And.right (by with_reducible assumption))))))))))
      | exact Nat.ne_of_gt (And.left (And.right (And.right (And.right (And.right (And.right (And.right (And.right (And.right (by with_reducible assumption))))))))))
      | exact Nat.ne_of_lt (And.right (And.right (And.right (And.right (And.right (And.right (And.right (And.right (by with_reducible assumption)))))))))
      | exact Nat.ne_of_gt (And.right (And.right (And.right (And.right (And.right (And.right (And.right (And.right (by with_reducible assumption)))))))))
      | exact Nat.ne_of_lt (And.left (And.right (And.right (And.right (And.right (And.right (And.right (And.right (And.right (And.right (by with_reducible assumption)))))))))))
      | exact Nat.ne_of_gt (And.left (And.right (And.right (And.right (And.right (And.right (And.right (And.right (And.right (And.right (by with_reducible assumption)))))))))))
      | exact Nat.ne_of_lt (And.right (And.right (And.right (And.right (And.right (And.right (And.right (And.right (And.right (by with_reducible assumption))))))))))
      | exact Nat.ne_of_gt (And.right (And.right (And.right (And.right (And.right (And.right (And.right (And.right (And.right (by with_reducible assumption))))))))))
      | exact Nat.ne_of_lt (And.left (And.right (And.right (And.right (And.right (And.right (And.right (And.right (And.right (And.right (And.right (by with_reducible assumption))))))))))))
      | exact Nat.ne_of_gt (And.left (And.right (And.right (And.right (And.right (And.right (And.right (And.right (And.right (And.right (And.right (by with_reducible assumption))))))))))))
      | exact Nat.ne_of_lt (And.right (And.right (And.right (And.right (And.right (And.right (And.right (And.right (And.right (And.right (by with_reducible assumption)))))))))))
      | exact Nat.ne_of_gt (And.right (And.right (And.right (And.right (And.right (And.right (And.right (And.right (And.right (And.right (by with_reducible assumption)))))))))))
      | exact Nat.ne_of_lt (And.left (And.right (And.right (And.right (And.right (And.right (And.right (And.right (And.right (And.right (And.right (And.right (by with_reducible assumption)))))))))))))
      | exact Nat.ne_of_gt (And.left (And.right (And.right (And.right (And.right (And.right (And.right (And.right (And.right (And.right (And.right (And.right (by with_reducible assumption)))))))))))))
      | exact Nat.ne_of_lt (And.right (And.right (And.right (And.right (And.right (And.right (And.right (And.right (And.right (And.right (And.right (by with_reducible assumption))))))))))))
      | exact Nat.ne_of_gt (And.right (And.right (And.right (And.right (And.right (And.right (And.right (And.right (And.right (And.right (And.right (by with_reducible assumption))))))))))))
      | exact Nat.ne_of_lt (And.left (And.right (And.right (And.right (And.right (And.right (And.right (And.right (And.right (And.right (And.right (And.right (And.right (by with_reducible assumption))))))))))))))
      | exact Nat.ne_of_gt (And.left (And.right (And.right (And.right (And.right (And.right (And.right (And.right (And.right (And.right (And.right (And.right (And.right (by with_reducible assumption))))))))))))))
      | exact Nat.ne_of_lt (And.right (And.right (And.right (And.right (And.right (And.right (And.right (And.right (And.right (And.right (And.right (And.right (by with_reducible assumption)))))))))))))
      | exact Nat.ne_of_gt (And.right (And.right (And.right (And.right (And.right (And.right (And.right (And.right (And.right (And.right (And.right (And.right (by with_reducible assumption)))))))))))))
      | (refine' Nat.ne_of_gt (Nat.lt_trans ?a ?b); (case b => with_reducible assumption); (case a => exact (by with_reducible assumption)))
      | (refine' Nat.ne_of_lt (Nat.lt_trans ?a ?b); (case b => with_reducible assumption); (case a => exact (by with_reducible assumption)))
      | (refine' Nat.ne_of_gt (Nat.lt_trans ?a ?b); (case b => with_reducible assumption); (case a => exact (And.left (by with_reducible assumption))))
      | (refine' Nat.ne_of_lt (Nat.lt_trans ?a ?b); (case b => with_reducible assumption); (case a => exact (And.left (by with_reducible assumption))))
      | (refine' Nat.ne_of_gt (Nat.lt_trans ?a ?b); (case b => with_reducible assumption); (case a => exact (And.left (And.right (by with_reducible assumption)))))
      | (refine' Nat.ne_of_lt (Nat.lt_trans ?a ?b); (case b => with_reducible assumption); (case a => exact (And.left (And.right (by with_reducible assumption)))))
      | (refine' Nat.ne_of_gt (Nat.lt_trans ?a ?b); (case b => with_reducible assumption); (case a => exact (And.right (by with_reducible assumption))))
      | (refine' Nat.ne_of_lt (Nat.lt_trans ?a ?b); (case b => with_reducible assumption); (case a => exact (And.right (by with_reducible assumption))))
      | (refine' Nat.ne_of_gt (Nat.lt_trans ?a ?b); (case b => with_reducible assumption); (case a => exact (And.left (And.right (And.right (by with_reducible assumption))))))
      | (refine' Nat.ne_of_lt (Nat.lt_trans ?a ?b); (case b => with_reducible assumption); (case a => exact (And.left (And.right (And.right (by with_reducible assumption))))))
      | (refine' Nat.ne_of_gt (Nat.lt_trans ?a ?b); (case b => with_reducible assumption); (case a => exact (And.right (And.right (by with_reducible assumption)))))
      | (refine' Nat.ne_of_lt (Nat.lt_trans ?a ?b); (case b => with_reducible assumption); (case a => exact (And.right (And.right (by with_reducible assumption)))))
      | (refine' Nat.ne_of_gt (Nat.lt_trans ?a ?b); (case b => with_reducible assumption); (case a => exact (And.left (And.right (And.right (And.right (by with_reducible assumption)))))))
      | (refine' Nat.ne_of_lt (Nat.lt_trans ?a ?b); (case b => with_reducible assumption); (case a => exact (And.left (And.right (And.right (And.right (by with_reducible assumption)))))))
      | (refine' Nat.ne_of_gt (Nat.lt_trans ?a ?b); (case b => with_reducible assumption); (case a => exact (And.right (And.right (And.right (by with_reducible assumption))))))
      | (refine' Nat.ne_of_lt (Nat.lt_trans ?a ?b); (case b => with_reducible assumption); (case a => exact (And.right (And.right (And.right (by with_reducible assumption))))))
      | (refine' Nat.ne_of_gt (Nat.lt_trans ?a ?b); (case b => with_reducible assumption); (case a => exact (And.left (And.right (And.right (And.right (And.right (by with_reducible assumption))))))))
      | (refine' Nat.ne_of_lt (Nat.lt_trans ?a ?b); (case b => with_reducible assumption); (case a => exact (And.left (And.right (And.right (And.right (And.right (by with_reducible assumption))))))))
      | (refine' Nat.ne_of_gt (Nat.lt_trans ?a ?b); (case b => with_reducible assumption); (case a => exact (And.right (And.right (And.right (And.right (by with_reducible assumption)))))))
      | (refine' Nat.ne_of_lt (Nat.lt_trans ?a ?b); (case b => with_reducible assumption); (case a => exact (And.right (And.right (And.right (And.right (by with_reducible assumption)))))))
      | (refine' Nat.ne_of_gt (Nat.lt_trans ?a ?b); (case b => with_reducible assumption); (case a => exact (And.left (And.right (And.right (And.right (And.right (And.right (by with_reducible assumption)))))))))
      | (refine' Nat.ne_of_lt (Nat.lt_trans ?a ?b); (case b => with_reducible assumption); (case a => exact (And.left (And.right (And.right (And.right (And.right (And.right (by with_reducible assumption)))))))))
      | (refine' Nat.ne_of_gt (Nat.lt_trans ?a ?b); (case b => with_reducible assumption); (case a => exact (And.right (And.right (And.right (And.right (And.right (by with_reducible assumption))))))))
      | (refine' Nat.ne_of_lt (Nat.lt_trans ?a ?b); (case b => with_reducible assumption); (case a => exact (And.right (And.right (And.right (And.right (And.right (by with_reducible assumption))))))))
      | (refine' Nat.ne_of_gt (Nat.lt_trans ?a ?b); (case b => with_reducible assumption); (case a => exact (And.left (And.right (And.right (And.right (And.right (And.right (And.right (by with_reducible assumption))))))))))
      | (refine' Nat.ne_of_lt (Nat.lt_trans ?a ?b); (case b => with_reducible assumption); (case a => exact (And.left (And.right (And.right (And.right (And.right (And.right (And.right (by with_reducible assumption))))))))))
      | (refine' Nat.ne_of_gt (Nat.lt_trans ?a ?b); (case b => with_reducible assumption); (case a => exact (And.right (And.right (And.right (And.right (And.right (And.right (by with_reducible assumption)))))))))
      | (refine' Nat.ne_of_lt (Nat.lt_trans ?a ?b); (case b => with_reducible assumption); (case a => exact (And.right (And.right (And.right (And.right (And.right (And.right (by with_reducible assumption)))))))))
      | (refine' Nat.ne_of_gt (Nat.lt_trans ?a ?b); (case b => with_reducible assumption); (case a => exact (And.left (And.right (And.right (And.right (And.right (And.right (And.right (And.right (by with_reducible assumption)))))))))))
      | (refine' Nat.ne_of_lt (Nat.lt_trans ?a ?b); (case b => with_reducible assumption); (case a => exact (And.left (And.right (And.right (And.right (And.right (And.right (And.right (And.right (by with_reducible assumption)))))))))))
      | (refine' Nat.ne_of_gt (Nat.lt_trans ?a ?b); (case b => with_reducible assumption); (case a => exact (And.right (And.right (And.right (And.right (And.right (And.right (And.right (by with_reducible assumption))))))))))
      | (refine' Nat.ne_of_lt (Nat.lt_trans ?a ?b); (case b => with_reducible assumption); (case a => exact (And.right (And.right (And.right (And.right (And.right (And.right (And.right (by with_reducible assumption))))))))))
      | (refine' Nat.ne_of_gt (Nat.lt_trans ?a ?b); (case b => with_reducible assumption); (case a => exact (And.left (And.right (And.right (And.right (And.right (And.right (And.right (And.right (And.right (by with_reducible assumption))))))))))))
      | (refine' Nat.ne_of_lt (Nat.lt_trans ?a ?b); (case b => with_reducible assumption); (case a => exact (And.left (And.right (And.right (And.right (And.right (And.right (And.right (And.right (And.right (by with_reducible assumption))))))))))))
      | (refine' Nat.ne_of_gt (Nat.lt_trans ?a ?b); (case b => with_reducible assumption); (case a => exact (And.right (And.right (And.right (And.right (And.right (And.right (And.right (And.right (by with_reducible assumption)))))))))))
      | (refine' Nat.ne_of_lt (Nat.lt_trans ?a ?b); (case b => with_reducible assumption); (case a => exact (And.right (And.right (And.right (And.right (And.right (And.right (And.right (And.right (by with_reducible assumption)))))))))))
      | (refine' Nat.ne_of_gt (Nat.lt_trans ?a ?b); (case b => with_reducible assumption); (case a => exact (And.left (And.right (And.right (And.right (And.right (And.right (And.right (And.right (And.right (And.right (by with_reducible assumption)))))))))))))
      | (refine' Nat.ne_of_lt (Nat.lt_trans ?a ?b); (case b => with_reducible assumption); (case a => exact (And.left (And.right (And.right (And.right (And.right (And.right (And.right (And.right (And.right (And.right (by with_reducible assumption)))))))))))))
      | (refine' Nat.ne_of_gt (Nat.lt_trans ?a ?b); (case b => with_reducible assumption); (case a => exact (And.right (And.right (And.right (And.right (And.right (And.right (And.right (And.right (And.right (by with_reducible assumption))))))))))))
      | (refine' Nat.ne_of_lt (Nat.lt_trans ?a ?b); (case b => with_reducible assumption); (case a => exact (And.right (And.right (And.right (And.right (And.right (And.right (And.right (And.right (And.right (by with_reducible assumption))))))))))))
      | (refine' Nat.ne_of_gt (Nat.lt_trans ?a ?b); (case b => with_reducible assumption); (case a => exact (And.left (And.right (And.right (And.right (And.right (And.right (And.right (And.right (And.right (And.right (And.right (by with_reducible assumption))))))))))))))
      | (refine' Nat.ne_of_lt (Nat.lt_trans ?a ?b); (case b => with_reducible assumption); (case a => exact (And.left (And.right (And.right (And.right (And.right (And.right (And.right (And.right (And.right (And.right (And.right (by with_reducible assumption))))))))))))))
      | (refine' Nat.ne_of_gt (Nat.lt_trans ?a ?b); (case b => with_reducible assumption); (case a => exact (And.right (And.right (And.right (And.right (And.right (And.right (And.right (And.right (And.right (And.right (by with_reducible assumption)))))))))))))
      | (refine' Nat.ne_of_lt (Nat.lt_trans ?a ?b); (case b => with_reducible assumption); (case a => exact (And.right (And.right (And.right (And.right (And.right (And.right (And.right (And.right (And.right (And.right (by with_reducible assumption)))))))))))))
      | (refine' Nat.ne_of_gt (Nat.lt_trans ?a ?b); (case b => with_reducible assumption); (case a => exact (And.left (And.right (And.right (And.right (And.right (And.right (And.right (And.right (And.right (And.right (And.right (And.right (by with_reducible assumption)))))))))))))))
      | (refine' Nat.ne_of_lt (Nat.lt_trans ?a ?b); (case b => with_reducible assumption); (case a => exact (And.left (And.right (And.right (And.right (And.right (And.right (And.right (And.right (And.right (And.right (And.right (And.right (by with_reducible assumption)))))))))))))))
      | (refine' Nat.ne_of_gt (Nat.lt_trans ?a ?b); (case b => with_reducible assumption); (case a => exact (And.right (And.right (And.right (And.right (And.right (And.right (And.right (And.right (And.right (And.right (And.right (by with_reducible assumption))))))))))))))
      | (refine' Nat.ne_of_lt (Nat.lt_trans ?a ?b); (case b => with_reducible assumption); (case a => exact (And.right (And.right (And.right (And.right (And.right (And.right (And.right (And.right (And.right (And.right (And.right (by with_reducible assumption))))))))))))))
      | fail "ne"
  k_with "eval Lambda" => (k_here; k_dflt (refine' kla_eval ?d0 ?_; (case d0 => exact rfl)); k_dflt (refine' kla_hit ?F ?N ?T ?C ?cd ?mem ?t ?n ?cl ?_; (case t => exact FullTab.tri (by assumption)); (case n => first | exact FullTab.a96 (by assumption) _ _ | exact FullTab.a97 (by assumption) _ _ | exact FullTab.a98 (by assumption) _ _ | exact FullTab.a99 (by assumption) _ _); (case F => k_asm); (case N => k_asm); (case T => k_asm); (case cd => exact rfl); (case C => kn_code); (case mem => k_mem); (case cl => exact rfl); k_whole); intro f' ct' h' tk' F' N' l1; (try k_lt l1); (try k_sweep))
  k_with "compareOp Eq" => (k_here; k_dflt (refine' eq_rule ?F ?N ?I ?hm ?hdt ?X ?T ?Dv ?Du ?_; (case F => k_asm); (case N => k_asm); (case I => k_asm); (case hm => k_mem); (case hdt => k_asm); (case X => k_asm); (case T => k_asm); (case Dv => k_asm); (case Du => k_asm); k_whole; intro h' tk' F' N'; (try k_sweep)))
  k_with "compareOp NotEq" => (k_here; k_dflt (refine' ne_rule ?F ?N ?I ?hm ?hdt ?X ?T ?Dv ?Du ?_; (case F => k_asm); (case N => k_asm); (case I => k_asm); (case hm => k_mem); (case hdt => k_asm); (case X => k_asm); (case T => k_asm); (case Dv => k_asm); (case Du => k_asm); k_whole; intro h' tk' F' N'; (try k_sweep)))
  refine wpAny_call ?_
  refine' enter_C [(127, tabObj (ps)), (Lw, oL)] x ?_ X T (by k_is) (by k_is) (by show dp < _; omega) (BindsTo.of_eq rfl) rfl (by decide +kernel) ?_ rfl rfl rfl
  · intro p hp
    rcases List.mem_cons.mp hp with rfl | hp
    · exact ⟨htab, htab0⟩
    · rw [List.mem_singleton] at hp; subst hp; exact ⟨hL, hL0⟩
  intro g L' h₁ tk cells xg hg F' N' Y' X' T' l1 hback
  k_lt l1
  k_cells Y'
  simp only [List.cons_append, List.nil_append] at N'
  refine no_E ?_
  have CH' := CH.keeps xg
  have Dv' := Dv.mono xg
  have Du' := Du.mono xg
  have I : InLaw (ktrTop dp un gd lcn lcs Lw la lcd lcl []) (envOfC (Str.ofString "_law_answers") { kind := ScopeKind.function, names := [(Str.ofString "one", NameKind.cell), (Str.ofString "other", NameKind.cell), (Str.ofString "answers", NameKind.local), (Str.ofString "ask", NameKind.local), (Str.ofString "TypeError", NameKind.globalImplicit)], isGenerator := false, isCoroutine := false } L' 132 (.ref 131)) Lw L' := ⟨⟨_, rfl, rfl, by show lcs.kind ≠ _; rw [hk]; decide⟩, rfl, rfl, l1.2, rfl, hdp, hun⟩
  replace hlt := ltN hlt
  clear X T Dv Du CH
  have hg' : ∀ (b : Addr) (o : Obj), s.heap.get? b = some o → b ≠ 127 → b ≠ Lw → g.get? b = some o := fun b o e a b' => hg b o e fun p hp => by
    rcases List.mem_cons.mp hp with rfl | hp
    · exact Ne.symm a
    · rw [List.mem_singleton] at hp; subst hp; exact Ne.symm b'
  have hR1 : g.CodeRec (.ref c1) lamQual := code_on hg' hC.r1 hC.n1
  have hR2 : g.CodeRec (.ref c2) lamQual := code_on hg' hC.r2 hC.n2
  have hR3 : g.CodeRec (.ref c3) lamQual := code_on hg' hC.r3 hC.n3
  have hR4 : g.CodeRec (.ref c4) lamQual := code_on hg' hC.r4 hC.n4
  repeat' (first | (k_unfold; (try dsimp only)) | ((fail_if_success (with_reducible show wpAny _ _ (pyIter _) _ _ _)); walk1))
  refine with_ask Lw L' v u (stand 2 d e) ?hin fun ask => ?main
  case hin =>
    rename Fr _ _ _ _ => FZ
    rename News _ _ _ _ => NZ
    clear FZ NZ
    intro s2 mm Q2 op name qual q1 q2 q3 cl pm ctv c' f c1 c2 al oL2 o1 o2 xs n news gn gn' F N j1 j2 hal hm hdt2 hf h4 hcd hc1 hc2 hm1 hm2 hd1 hd2 hz UF UG ok
    k_with "call ref" => first
      | (k_here; k_dflt (refine' lam_some F0 N I hm hdt2 X' T' Dv' Du' hs hf h4 hcd hc1 hc2 hm1 hm2 hd1 hd2 ?_); intro h' tk' F' N')
      | (k_here; k_dflt (refine' lam_none F0 N I hm hdt2 X' T' Dv' Du' hs hf h4 hcd hc1 hc2 hm1 hm2 hd1 hd2 ?_); intro elaw' x' a0' h' tk' hel' fl' us')
    k_with "noteFrame ref" => (k_here; k_dflt (refine' caught_A ?F ?N I UF hdt2 X' T' ?hel ?fl ?us ?_; (case fl => k_asm); (case hel => k_asm); (case F => k_asm); (case N => k_asm); (case us => k_asm)); intro h' sl' F' N')
    k_with "call builtin:list.append" => (k_here; k_dflt (refine' append_K ?k1 ?k2 ?k3 ?_ ?z; (case k1 => k_asm); (case k2 => k_asm); (case k3 => first | exact U0 | exact UG _); (case z => exact Nat.le_trans hz (by decide))); intro h' F' N')
    k_with "mem" => first | assumption | exact mem_upd (UG _)
    have U0 : Upd al (W.listOf xs n) (W.listOf (xs.push (optB (ans op (stand 2 d e)))) (n + 1)) news (gn' oL2) := by have := UG oL2; rwa [updF_self UF] at this
    refine wpAny_Try_except ?_
    rw [m_pair j1 j2] at F
    have F0 := F
    cases hs : (stand 2 d e).2 with
    | some y =>
      rw [ans_some h4 hs] at U0
      k_steps
      rw [← m_pair j1 j2] at F'
      exact ok _ _ oL2.slots F' N'
    | none =>
      rw [ans_none h4 hs] at UG
      k_steps
      rw [← m_pair j1 j2] at F'
      exact ok _ _ _ F' N'
  case main =>
    k_with "exec Try" => (k_here; k_dflt (refine' ask _ _ _ _ _ _ _ _ _ _ _ _ _ _ _ _ _ _ _ _ _ _ _ _ _ ?F ?N ?j1 ?j2 ?hal ?hm ?hdt ?hf ?h4 ?hcd ?hc1 ?hc2 ?hm1 ?hm2 ?hd1 ?hd2 ?hz ?UF ?UG ?_; (case F => k_asm); (case N => k_asm); (case j1 => exact rfl); (case j2 => exact rfl); (case hf => k_mem); (case hal => k_mem); (case hm => k_mem); (case hdt => k_asm); (case h4 => simp [Four]); (case hcd => first | exact codeRec_news (by k_asm) (by k_mem) (by assumption) (by assumption) | exact Heap.CodeRec.keeps (by assumption) (Fr.keep (by assumption)) | fail "hcd"); (case hc1 => exact rfl); (case hc2 => exact rfl); (case hm1 => k_mem); (case hm2 => k_mem); (case hd1 => k_asm); (case hd2 => k_asm); (case hz => exact Nat.le_of_ble_eq_true rfl); (case UF => k_updF); (case UG => (intro o9; (try dsimp only); k_upd))); intro h' tk' sl' F' N'; (try dsimp only at N'); (try k_sweep))
    k_steps
    all_goals (
      show Q _ _
      refine' hret _ _ _ (ans_end (oL := oL) hg' (by assumption) (by assumption) (by k_dflt k_mem) (by k_dflt k_mem) (by k_dflt k_mem) (by k_ne) (by k_ne) ?e1 ?e2) (hC.on hg' (Fr.keep (by assumption)))
      case e1 => rfl
      case e2 => exact Eq.refl _)
set_option maxHeartbeats 4000000
/-! ## zip over two tuples: a source that feeds, step by step -/
structure Feed (prog : Program) (w : World) (cls : String) (it l : Addr) (xs : Array Value) (S : Nat → Heap → Prop) : Prop where
  obj : ∀ k h, S k h → ∃ o, h.get? it = some o ∧ o.cls = .type cls
  ext : ∀ k h h', S k h → (∀ o, h.get? it = some o → h'.get? it = some o) → (∀ o, h.get? l = some o → h'.get? l = some o) → S k h'
  item : ∀ (A : Around) (s : Shared) (k : Nat) (x : Value) (Q E : Value → Shared → Prop), S k s.heap → xs[k]? = some x →
    (∀ h', S (k + 1) h' → Heap.SameBut it s.heap h' → Q x { s with heap := h' }) → wpAny (model prog w) A (Builtin.SmallTypes.nextOf (.ref it)) Q E s
  stop : ∀ (A : Around) (s : Shared) (k : Nat) (Q E : Value → Shared → Prop), A.handled = none → S k s.heap → xs[k]? = none →
    (∀ h' e, Heap.ExtBut it s.heap h' → (∃ o, h'.get? e = some o ∧ o.cls = .type "StopIteration") → E (.ref e) { s with heap := h' }) → wpAny (model prog w) A (Builtin.SmallTypes.nextOf (.ref it)) Q E s

def TupS (it l : Addr) (xs : Array Value) (k : Nat) (h : Heap) : Prop := h.IsTupleIter it l k ∧ h.IsTuple l xs
theorem feed_tuple {prog : Program} {w : World} {it l : Addr} {xs : Array Value} (hne : l ≠ it) : Feed prog w "tuple_iterator" it l xs (TupS it l xs) where
  obj := fun k h x => let ⟨o, ho, hc, _⟩ := x.1; ⟨o, ho, hc⟩
  ext := fun k h h' x a b => by
    obtain ⟨⟨o, ho, r⟩, ⟨o2, ho2, r2⟩⟩ := x
    exact ⟨⟨o, a _ ho, r⟩, ⟨o2, b _ ho2, r2⟩⟩
  item := fun A s k x Q E hS hx hQ => by
    obtain ⟨hit, ht⟩ := hS
    obtain ⟨o, ho, hc, hd⟩ := id hit
    obtain ⟨ol, hol, hcl, nl, hdl⟩ := id ht
    unfold Builtin.SmallTypes.nextOf
    refine wpAny_bind (wpAny_callSpecial?_slot (name := Str.ofString "__next__") hit.typeIs F.slot_tuple_iterator_next
      (wpAny_call_entry F.slot_tuple_iterator_next hit.typeIs F.entry_tuple_iterator_next ?_ (F.args_tuple_iterator_next_1 _)))
    show wpAny _ _ (field (.ref it) 0 >>= _) _ _ s
    refine wpAny_bind (wpAny_field ho hd (x := .ref l) rfl ?_)
    show wpAny _ _ (if (Value.ref l == Value.none) = true then _ else _) _ _ s
    rw [if_neg (show ¬ ((Value.ref l == Value.none) = true) from Bool.false_ne_true)]
    show wpAny _ _ (field (.ref it) 1 >>= _) _ _ s
    refine wpAny_bind (wpAny_field ho hd (x := .int k 0) rfl ?_)
    show wpAny _ _ (seqItems? (.ref l) >>= _) _ _ s
    refine wpAny_bind (wpAny_seqItems hol hdl ?_)
    simp only [Int.toNat_natCast, hx]
    refine wpAny_bind (wpAny_setField ho hd (by simp) (wpAny_pure ⟨x, rfl, wpAny_pure (hQ _ ⟨?_, ?_⟩ (Heap.SameBut.update ..))⟩))
    · exact ⟨_, Heap.get?_update_self _ ho (Obj.isFreed_of_fields (Obj.data_mapFields hd _)), (Obj.cls_mapFields ..).trans hc, by rw [Obj.data_mapFields hd]; simp [rawInt]⟩
    · exact ht.extBut (Heap.SameBut.update ..).extBut hne
  stop := fun A s k Q E hh hS hx hE => by
    obtain ⟨hit, ht⟩ := hS
    obtain ⟨o, ho, hc, hd⟩ := id hit
    obtain ⟨ol, hol, hcl, nl, hdl⟩ := id ht
    unfold Builtin.SmallTypes.nextOf
    refine wpAny_bind (wpAny_callSpecial?_slot (name := Str.ofString "__next__") hit.typeIs F.slot_tuple_iterator_next
      (wpAny_call_entry F.slot_tuple_iterator_next hit.typeIs F.entry_tuple_iterator_next ?_ (F.args_tuple_iterator_next_1 _)))
    show wpAny _ _ (field (.ref it) 0 >>= _) _ _ s
    refine wpAny_bind (wpAny_field ho hd (x := .ref l) rfl ?_)
    show wpAny _ _ (if (Value.ref l == Value.none) = true then _ else _) _ _ s
    rw [if_neg (show ¬ ((Value.ref l == Value.none) = true) from Bool.false_ne_true)]
    show wpAny _ _ (field (.ref it) 1 >>= _) _ _ s
    refine wpAny_bind (wpAny_field ho hd (x := .int k 0) rfl ?_)
    show wpAny _ _ (seqItems? (.ref l) >>= _) _ _ s
    refine wpAny_bind (wpAny_seqItems hol hdl ?_)
    simp only [Int.toNat_natCast, hx]
    refine wpAny_bind (wpAny_rule (wpAny_bind (wpAny_setField ho hd (by simp) ?_)))
    show wpAny _ _ (newExc (.type "StopIteration") [] >>= _) _ _ _
    refine wpAny_bind ?_
    simp only [newExc, newTuple]
    refine wpAny_bind (wpAny_newObj_type ?_ (by size_fits))
    refine wpAny_bind (m := firstArgMember _ _) (wpAny_of_eq (a := Value.none) (by first | rfl | (simp only [firstArgMember]; rfl)) ?_)
    refine wpAny_newObj_type ?_ (by size_fits)
    simp only [raiseNew]
    refine wpAny_bind (wpAny_handled ?_)
    first | rw [show A.in1.handled = none from hh] | rw [hh]
    refine wpAny_bind (wpAny_pure (wpAny_throw ?_))
    exact hE _ _ (((Heap.SameBut.update ..).extBut.push _).push _) ⟨_, Heap.get?_push_size _ rfl, rfl⟩

/-- the zip object at rest, at turn k -/
structure ZipAt (S1 S2 : Nat → Heap → Prop) (z TI TO i1 i2 : Addr) (f0 : Value) (k : Nat) (h : Heap) : Prop where
  z : IsZip h z TI TO f0
  ti : IsPair h TI (.ref i1) (.ref i2)
  to : ∃ a b, IsPair h TO a b
  s1 : S1 k h
  s2 : S2 k h

section
variable {prog : Program} {w : World} {A : Around} {E : Value → Shared → Prop} {s : Shared} {z TI TO i1 i2 l1 l2 : Addr} {c1 c2 : String} {xs ys : Array Value} {S1 S2 : Nat → Heap → Prop} {k : Nat}
theorem Feed.on (f : Feed prog w c1 i1 l1 xs S1) {h h' : Heap} {b : Addr} (hS : S1 k h) (x : Heap.ExtBut b h h') (n1 : i1 ≠ b) (n2 : l1 ≠ b) : S1 k h' := f.ext k h h' hS (fun o e => x _ _ n1 e) fun o e => x _ _ n2 e

theorem zip_item {x y : Value} {Q : Option Value → Shared → Prop} (f1 : Feed prog w c1 i1 l1 xs S1) (f2 : Feed prog w c2 i2 l2 ys S2) (D : ZipApart z TI TO i1 i2 l1 l2) (Z : ZipAt S1 S2 z TI TO i1 i2 .none k s.heap)
    (hx : xs[k]? = some x) (hy : ys[k]? = some y)
    (hQ : ∀ h' (T : Addr), ZipAt S1 S2 z TI TO i1 i2 (rawInt (T : Nat)) (k + 1) h' → IsPair h' T x y → T ≠ z → T ≠ TO → T ≠ i1 → T ≠ i2 → (∀ c o, c ≠ z → c ≠ TO → c ≠ i1 → c ≠ i2 → s.heap.get? c = some o → h'.get? c = some o) → Q (some (.ref T)) { s with heap := h' }) :
    wpAny (model prog w) A (pyNext (.ref z)) Q E s := by
  obtain ⟨hz, hTI, ⟨a, b, hTO⟩, h1, h2⟩ := Z
  have hT : s.TypeIs (.ref z) "zip" := ⟨_, hz, rfl⟩
  unfold pyNext
  refine wpAny_bind (wpAny_attempt (wpAny_callSpecial?_slot (name := Str.ofString "__next__") hT F.slot_zip_next (wpAny_call_entry F.slot_zip_next hT F.entry_zip_next ?_ (F.args_zip_next_1 _))))
  show wpAny _ _ (field (.ref z) 2 >>= _) _ _ _
  refine wpAny_bind (wpAny_field hz rfl (x := .bool false) rfl ?_)
  show wpAny _ _ (field (.ref z) 3 >>= _) _ _ _
  refine wpAny_bind (wpAny_field hz rfl (x := .ref TI) rfl ?_)
  refine wpAny_bind (wpAny_seqItems hTI rfl ?_)
  show wpAny _ _ (Builtin.SmallTypes.ownedTupleIsFree (.ref z) >>= _) _ _ _
  refine wpAny_bind ?_
  unfold Builtin.SmallTypes.ownedTupleIsFree
  refine wpAny_bind (wpAny_field hz rfl (x := .none) rfl (wpAny_pure ?_))
  simp only [if_true]
  refine wpAny_bind (wpAny_rule ?_)
  refine wpAny_bind (wpAny_field hz rfl (x := .ref TO) rfl ?_)
  refine wpAny_bind (wpAny_setField_rec hz (by simp) fun ha hza hsa => ?_)
  replace hza : IsZip ha z TI TO .ellipsis := hza
  refine wpAny_bind ?_
  simp only [List.zipIdx_cons, List.zipIdx_nil, List.forIn_cons, List.forIn_nil]
  -- the first
  refine wpAny_bind (wpAny_bind (wpAny_onRaise ?_))
  show wpAny _ _ (Builtin.SmallTypes.nextOf (.ref i1) >>= _) _ _ _
  refine wpAny_bind (f1.item _ _ k x _ _ (f1.on h1 hsa.extBut D.i1z D.l1z) hx fun hb h1b hsb => wpAny_pure ?_)
  have hTOb : IsPair hb TO a b := hsb.extBut _ _ D.TOi1 (hsa.extBut _ _ D.TOz hTO)
  refine wpAny_bind (wpAny_seqItems hTOb rfl ?_)
  refine wpAny_bind (wpAny_updateSeq_pair hTOb fun hc hTOc hsc => ?_)
  replace hTOc : IsPair hc TO x b := hTOc
  refine wpAny_bind (wpAny_letGo (wpAny_pure ?_))
  -- the second
  refine wpAny_bind (wpAny_bind (wpAny_onRaise ?_))
  show wpAny _ _ (Builtin.SmallTypes.nextOf (.ref i2) >>= _) _ _ _
  have h2c : S2 k hc := f2.on (f2.on (f2.on h2 hsa.extBut D.i2z D.l2z) hsb.extBut D.i12.symm D.l2i1) hsc.extBut D.TOi2.symm D.l2TO
  refine wpAny_bind (f2.item _ _ k y _ _ h2c hy fun hd h2d hsd => wpAny_pure ?_)
  have hTOd : IsPair hd TO x b := hsd.extBut _ _ D.TOi2 hTOc
  refine wpAny_bind (wpAny_seqItems hTOd rfl ?_)
  refine wpAny_bind (wpAny_updateSeq_pair hTOd fun he hTOe hse => ?_)
  replace hTOe : IsPair he TO x y := hTOe
  refine wpAny_bind (wpAny_letGo (wpAny_pure (wpAny_pure ?_)))
  refine wpAny_bind (wpAny_seqItems hTOe rfl ?_)
  refine wpAny_bind (wpAny_newTuple ?_)
  have all : ∀ c o, c ≠ z → c ≠ TO → c ≠ i1 → c ≠ i2 → s.heap.get? c = some o → he.get? c = some o := fun c o c1 c2 c3 c4 e =>
    hse.extBut _ _ c2 (hsd.extBut _ _ c4 (hsc.extBut _ _ c2 (hsb.extBut _ _ c3 (hsa.extBut _ _ c1 e))))
  have hze : IsZip he z TI TO .ellipsis := hse.extBut _ _ D.TOz.symm (hsd.extBut _ _ D.i2z.symm (hsc.extBut _ _ D.TOz.symm (hsb.extBut _ _ D.i1z.symm hza)))
  have h1e : S1 (k + 1) he := f1.on (f1.on (f1.on h1b hsc.extBut D.TOi1.symm D.l1TO) hsd.extBut D.i12 D.l1i2) hse.extBut D.TOi1.symm D.l1TO
  have h2e : S2 (k + 1) he := f2.on h2d hse.extBut D.TOi2.symm D.l2TO
  have hzlt : z < he.objs.size := Heap.lt_size hze
  have hTOlt : TO < he.objs.size := Heap.lt_size hTOe
  have hi1lt : i1 < he.objs.size := let ⟨_, e, _⟩ := f1.obj _ _ h1e; Heap.lt_size e
  have hi2lt : i2 < he.objs.size := let ⟨_, e, _⟩ := f2.obj _ _ h2e; Heap.lt_size e
  show wpAny _ _ (Builtin.SmallTypes.ownedTupleHandOut (.ref z) (.ref he.objs.size) >>= _) _ _ _
  refine wpAny_bind ?_
  unfold Builtin.SmallTypes.ownedTupleHandOut
  have hzf : IsZip (he.push { cls := .type "tuple", data := .seq #[x, y] }) z TI TO .ellipsis := Heap.get?_push_of_some _ hze
  refine wpAny_bind (wpAny_setField_rec hzf (by simp) fun hg hzg hsg => ?_)
  replace hzg : IsZip hg z TI TO (rawInt he.objs.size) := hzg
  refine wpAny_setField_rec hzg (by simp) fun hh hzh hsh => ?_
  replace hzh : IsZip hh z TI TO (rawInt he.objs.size) := hzh
  have up : ∀ c o, c ≠ z → he.get? c = some o → hh.get? c = some o := fun c o c1 e => hsh.extBut _ _ c1 (hsg.extBut _ _ c1 (Heap.get?_push_of_some _ e))
  have hTh : IsPair hh he.objs.size x y := hsh.extBut _ _ (Nat.ne_of_gt hzlt) (hsg.extBut _ _ (Nat.ne_of_gt hzlt) (Heap.get?_push_size _ rfl))
  refine wpAny_pure ⟨_, rfl, ?_⟩
  refine wpAny_pure (hQ hh he.objs.size ⟨hzh, up _ _ D.TIz (all _ _ D.TIz D.TITO D.TIi1 D.TIi2 hTI), ⟨_, _, up _ _ D.TOz hTOe⟩, f1.ext _ _ _ h1e (fun o e => up _ o D.i1z e) fun o e => up _ o D.l1z e, f2.ext _ _ _ h2e (fun o e => up _ o D.i2z e) fun o e => up _ o D.l2z e⟩ hTh
    (Nat.ne_of_gt hzlt) (Nat.ne_of_gt hTOlt) (Nat.ne_of_gt hi1lt) (Nat.ne_of_gt hi2lt) fun c o c1 c2 c3 c4 e => up c o c1 (all c o c1 c2 c3 c4 e))
end
set_option maxHeartbeats 4000000
section
variable {prog : Program} {w : World} {A : Around} {E : Value → Shared → Prop} {s : Shared} {z TI TO i1 i2 l1 l2 : Addr} {c1 c2 : String} {xs ys : Array Value} {S1 S2 : Nat → Heap → Prop} {k : Nat}
theorem zip_stop {Q : Option Value → Shared → Prop} (hh : A.handled = none) (f1 : Feed prog w c1 i1 l1 xs S1) (f2 : Feed prog w c2 i2 l2 ys S2) (hn1 : c1 ≠ "StopIteration") (D : ZipApart z TI TO i1 i2 l1 l2) (Z : ZipAt S1 S2 z TI TO i1 i2 .none k s.heap)
    (hend : xs[k]? = none ∨ ys[k]? = none)
    (hQ : ∀ h', (∀ c o, c ≠ z → c ≠ TO → c ≠ i1 → c ≠ i2 → s.heap.get? c = some o → h'.get? c = some o) → Q none { s with heap := h' }) :
    wpAny (model prog w) A (pyNext (.ref z)) Q E s := by
  obtain ⟨hz, hTI, ⟨a, b, hTO⟩, h1, h2⟩ := Z
  have hT : s.TypeIs (.ref z) "zip" := ⟨_, hz, rfl⟩
  unfold pyNext
  have fin : ∀ h' e, (∀ c o, c ≠ z → c ≠ TO → c ≠ i1 → c ≠ i2 → s.heap.get? c = some o → h'.get? c = some o) → (∃ o, h'.get? e = some o ∧ o.cls = .type "StopIteration") →
      wpAny (model prog w) A (do if ← isInstance (.ref e) (.type "StopIteration") then pure none else throw (.ref e)) Q E { s with heap := h' } := by
    rintro h' e hk ⟨o, ho, hc⟩
    refine wpAny_bind (wpAny_isInstance (T := "StopIteration") (b := true) ⟨o, ho, hc⟩ isSubtype_stop ?_)
    exact wpAny_pure (hQ _ hk)
  refine wpAny_bind (wpAny_attempt (wpAny_callSpecial?_slot (name := Str.ofString "__next__") hT F.slot_zip_next (wpAny_call_entry F.slot_zip_next hT F.entry_zip_next ?_ (F.args_zip_next_1 _))))
  show wpAny _ _ (field (.ref z) 2 >>= _) _ _ _
  refine wpAny_bind (wpAny_field hz rfl (x := .bool false) rfl ?_)
  show wpAny _ _ (field (.ref z) 3 >>= _) _ _ _
  refine wpAny_bind (wpAny_field hz rfl (x := .ref TI) rfl ?_)
  refine wpAny_bind (wpAny_seqItems hTI rfl ?_)
  show wpAny _ _ (Builtin.SmallTypes.ownedTupleIsFree (.ref z) >>= _) _ _ _
  refine wpAny_bind ?_
  unfold Builtin.SmallTypes.ownedTupleIsFree
  refine wpAny_bind (wpAny_field hz rfl (x := .none) rfl (wpAny_pure ?_))
  simp only [if_true]
  refine wpAny_bind (wpAny_rule ?_)
  refine wpAny_bind (wpAny_field hz rfl (x := .ref TO) rfl ?_)
  refine wpAny_bind (wpAny_setField_rec hz (by simp) fun ha hza hsa => ?_)
  replace hza : IsZip ha z TI TO .ellipsis := hza
  refine wpAny_bind ?_
  simp only [List.zipIdx_cons, List.zipIdx_nil, List.forIn_cons, List.forIn_nil]
  refine wpAny_bind (wpAny_bind (wpAny_onRaise ?_))
  show wpAny _ _ (Builtin.SmallTypes.nextOf (.ref i1) >>= _) _ _ _
  cases hx : xs[k]? with
  | none =>
    refine wpAny_bind (f1.stop _ _ k _ _ hh (f1.on h1 hsa.extBut D.i1z D.l1z) hx fun hb e hsb he => ?_)
    obtain ⟨oe, hoe, hce⟩ := he
    have hzb : IsZip hb z TI TO .ellipsis := hsb _ _ D.i1z.symm hza
    have hez : e ≠ z := fun q => by subst q; rw [hzb] at hoe; cases hoe; simp at hce
    refine wpAny_setField_rec hzb (by simp) fun hc _ hsc => fin hc e (fun c o n1 _ n3 _ q => hsc.extBut _ _ n1 (hsb _ _ n3 (hsa.extBut _ _ n1 q))) ⟨oe, hsc.extBut _ _ hez hoe, hce⟩
  | some x =>
    have hy : ys[k]? = none := by rcases hend with h | h; rw [hx] at h; cases h; exact h
    refine wpAny_bind (f1.item _ _ k x _ _ (f1.on h1 hsa.extBut D.i1z D.l1z) hx fun hb h1b hsb => wpAny_pure ?_)
    have hTOb : IsPair hb TO a b := hsb.extBut _ _ D.TOi1 (hsa.extBut _ _ D.TOz hTO)
    refine wpAny_bind (wpAny_seqItems hTOb rfl ?_)
    refine wpAny_bind (wpAny_updateSeq_pair hTOb fun hc hTOc hsc => ?_)
    refine wpAny_bind (wpAny_letGo (wpAny_pure ?_))
    refine wpAny_bind (wpAny_bind (wpAny_onRaise ?_))
    show wpAny _ _ (Builtin.SmallTypes.nextOf (.ref i2) >>= _) _ _ _
    have h2c : S2 k hc := f2.on (f2.on (f2.on h2 hsa.extBut D.i2z D.l2z) hsb.extBut D.i12.symm D.l2i1) hsc.extBut D.TOi2.symm D.l2TO
    refine wpAny_bind (f2.stop _ _ k _ _ hh h2c hy fun hd e hsd he => ?_)
    obtain ⟨oe, hoe, hce⟩ := he
    have hzd : IsZip hd z TI TO .ellipsis := hsd _ _ D.i2z.symm (hsc.extBut _ _ D.TOz.symm (hsb.extBut _ _ D.i1z.symm hza))
    have hez : e ≠ z := fun q => by subst q; rw [hzd] at hoe; cases hoe; simp at hce
    refine wpAny_setField_rec hzd (by simp) fun he' _ hse => fin he' e (fun c o n1 n2 n3 n4 q => hse.extBut _ _ n1 (hsd _ _ n4 (hsc.extBut _ _ n2 (hsb.extBut _ _ n3 (hsa.extBut _ _ n1 q))))) ⟨oe, hse.extBut _ _ hez hoe, hce⟩

theorem zip_turns {elts : List Expr} {kk : Nat} {pos : Pos} (hh : A.handled = none) (f1 : Feed prog w c1 i1 l1 xs S1) (f2 : Feed prog w c2 i2 l2 ys S2) (hn1 : c1 ≠ "StopIteration") (D : ZipApart z TI TO i1 i2 l1 l2) :
    KTurns prog w A (.Tuple elts kk pos) z [z, TI, TO, i1, i2, l1, l2] [z, TO, i1, i2] (min xs.size ys.size)
      (fun i v h => ∃ (T : Addr) (x y : Value), v = .ref T ∧ xs[i]? = some x ∧ ys[i]? = some y ∧ IsPair h T x y)
      (fun i v h => ∃ (T : Addr) (x y : Value), v = .ref T ∧ xs[i]? = some x ∧ ys[i]? = some y ∧ IsPair h T x y ∧ ZipAt S1 S2 z TI TO i1 i2 (rawInt (T : Nat)) (i + 1) h ∧ T ≠ z)
      (fun i h => ZipAt S1 S2 z TI TO i1 i2 .none i h) where
  sub := fun c hc => by simp at hc ⊢; rcases hc with rfl | rfl | rfl | rfl <;> simp
  frame := fun i h h' Z hk => ⟨hk z (by simp) _ Z.z, hk TI (by simp) _ Z.ti, let ⟨a, b, e⟩ := Z.to; ⟨a, b, hk TO (by simp) _ e⟩, f1.ext _ _ _ Z.s1 (fun o e => hk i1 (by simp) o e) fun o e => hk l1 (by simp) o e, f2.ext _ _ _ Z.s2 (fun o e => hk i2 (by simp) o e) fun o e => hk l2 (by simp) o e⟩
  item := fun i s Q E hi Z hQ => by
    have h1 : i < xs.size := Nat.lt_of_lt_of_le hi (Nat.min_le_left ..)
    have h2 : i < ys.size := Nat.lt_of_lt_of_le hi (Nat.min_le_right ..)
    refine zip_item f1 f2 D Z (Array.getElem?_eq_getElem h1) (Array.getElem?_eq_getElem h2) fun h' T Z' hT n1 n2 n3 n4 hk => ?_
    exact hQ (.ref T) h' s.toks ⟨T, _, _, rfl, Array.getElem?_eq_getElem h1, Array.getElem?_eq_getElem h2, hT, Z', n1⟩ fun c o hc e => hk c o (fun q => hc (by simp [q])) (fun q => hc (by simp [q])) (fun q => hc (by simp [q])) (fun q => hc (by simp [q])) e
  go := fun i v s Q E hm hQ => by
    obtain ⟨T, x, y, rfl, hx, hy, hT, Z, hTz⟩ := hm
    refine wpAny_letOwnedTupleGo_zip Z.z fun h' hz' hs' => hQ h' ⟨T, x, y, rfl, hx, hy, hs'.extBut _ _ hTz hT⟩ ⟨hz', hs'.extBut _ _ D.TIz Z.ti, let ⟨a, b, e⟩ := Z.to; ⟨a, b, hs'.extBut _ _ D.TOz e⟩, f1.on Z.s1 hs'.extBut D.i1z D.l1z, f2.on Z.s2 hs'.extBut D.i2z D.l2z⟩ fun c o hc e => hs'.extBut _ _ (fun q => hc (by simp [q])) e
  done := fun s Q E Z hQ => by
    have hend : xs[min xs.size ys.size]? = none ∨ ys[min xs.size ys.size]? = none := by
      rcases Nat.le_total xs.size ys.size with h | h
      · exact .inl (by rw [Nat.min_eq_left h]; exact Array.getElem?_eq_none (Nat.le_refl _))
      · exact .inr (by rw [Nat.min_eq_right h]; exact Array.getElem?_eq_none (Nat.le_refl _))
    exact zip_stop hh f1 f2 hn1 D Z hend fun h' hk => hQ h' s.toks fun c o hc e => hk c o (fun q => hc (by simp [q])) (fun q => hc (by simp [q])) (fun q => hc (by simp [q])) (fun q => hc (by simp [q])) e

theorem zip_new_tup (l1 l2 : Addr) (xs ys : Array Value) :
    Meets (Builtin.«zip.__new__» ⟨[.type "zip", .ref l1, .ref l2], []⟩) (fun _ R s => s.heap.IsTuple l1 xs ∧ s.heap.IsTuple l2 ys ∧
      ∀ h', IsZip h' (s.heap.objs.size + 4) (s.heap.objs.size + 2) (s.heap.objs.size + 3) .none → IsPair h' (s.heap.objs.size + 2) (.ref s.heap.objs.size) (.ref (s.heap.objs.size + 1)) → IsPair h' (s.heap.objs.size + 3) .none .none →
        h'.IsTupleIter s.heap.objs.size l1 0 → h'.IsTupleIter (s.heap.objs.size + 1) l2 0 → (∀ c o, s.heap.get? c = some o → h'.get? c = some o) → R (.ok (.ret (.ref (s.heap.objs.size + 4)))) { s with heap := h' }) :=
  .of_wp fun prog w A R s h => by
    obtain ⟨hp, g, d, tk, os⟩ := s; obtain ⟨hl1, hl2, h⟩ := h
    have hsub := sub_zip
    have hL1 : Heap.IsTuple (Shared.heap ⟨hp, g, d, tk, os⟩) l1 xs := hl1
    have hL2 : Heap.IsTuple (Shared.heap ⟨hp.push { cls := .type "tuple_iterator", data := .fields #[.ref l1, .int 0 0] }, g, d, tk, os⟩) l2 ys := Heap.IsTuple.push hl2 _
    wp_walk using wpAny_pyIter_tuple hL1, wpAny_pyIter_tuple hL2
    refine ⟨_, rfl, ?_⟩
    have e1 : (hp.push { cls := .type "tuple_iterator", data := .fields #[.ref l1, .int 0 0] }).objs.size = hp.objs.size + 1 := Heap.size_push ..
    simp only [Heap.size_push]
    refine h _ ?_ ?_ ?_ ?_ ?_ ?_
    · refine Heap.get?_push_at ?_ rfl
      simp only [Heap.size_push]
    · refine Heap.get?_push_of_some _ (Heap.get?_push_of_some _ (Heap.get?_push_at ?_ rfl))
      simp only [Heap.size_push]
    · refine Heap.get?_push_of_some _ (Heap.get?_push_at ?_ rfl)
      simp only [Heap.size_push]
    · exact ⟨_, Heap.get?_push_of_some _ (Heap.get?_push_of_some _ (Heap.get?_push_of_some _ (Heap.get?_push_of_some _ (Heap.get?_push_size _ rfl)))), rfl, rfl⟩
    · refine ⟨_, Heap.get?_push_of_some _ (Heap.get?_push_of_some _ (Heap.get?_push_of_some _ (Heap.get?_push_at ?_ rfl))), rfl, rfl⟩
      simp only [Heap.size_push]
    · exact fun c o q => Heap.get?_push_of_some _ (Heap.get?_push_of_some _ (Heap.get?_push_of_some _ (Heap.get?_push_of_some _ (Heap.get?_push_of_some _ q))))
end
set_option maxHeartbeats 4000000
def LisS (it l : Addr) (xs : Array Value) (k : Nat) (h : Heap) : Prop := h.IsListIter it l k ∧ h.IsList l xs
theorem feed_list {prog : Program} {w : World} {it l : Addr} {xs : Array Value} (hne : l ≠ it) : Feed prog w "list_iterator" it l xs (LisS it l xs) where
  obj := fun k h x => let ⟨o, ho, hc, _⟩ := x.1; ⟨o, ho, hc⟩
  ext := fun k h h' x a b => by
    obtain ⟨⟨o, ho, r⟩, ⟨o2, ho2, r2⟩⟩ := x
    exact ⟨⟨o, a _ ho, r⟩, ⟨o2, b _ ho2, r2⟩⟩
  item := fun A s k x Q E hS hx hQ => wpAny_nextOf_list_item hS.1 hS.2 hx fun h' a b => hQ h' ⟨a, hS.2.extBut b.extBut hne⟩ b
  stop := fun A s k Q E hh hS hx hE => wpAny_nextOf_list_end hh hS.1 hS.2 hx hE

/-- what a turn of a loop is to show at its end -/
def TurnEnd (g : Heap) (L : Addr) (own : List (Addr × Obj)) (J : (Str → Option Value) → Prop) (s : Shared) (Q : Flow → Shared → Prop) (f : Flow) (s' : Shared) : Prop :=
  match f with
  | .ret v => Q (.ret v) s'
  | .brk => Q .next s'
  | _ => ∃ h' tk m', s' = { s with heap := h', toks := tk } ∧ Fr g L h' m' ∧ News g L h' own ∧ J m'
section
variable {w : World} {A : Around} {E : Value → Shared → Prop} {s : Shared} {g : Heap} {env : Env} {m : Str → Option Value} {l1 l2 : Addr} {xs ys : Array Value} {elts : List Expr} {kk : Nat} {pos : Pos} {body : List Stmt} {Q : Flow → Shared → Prop}
theorem zip_core {prog : Program} {z TI TO i1 i2 : Addr} {c1 c2 : String} {S1 S2 : Nat → Heap → Prop} (hh : A.handled = none) (f1 : Feed prog w c1 i1 l1 xs S1) (f2 : Feed prog w c2 i2 l2 ys S2) (hn1 : c1 ≠ "StopIteration") (D : ZipApart z TI TO i1 i2 l1 l2)
    (Z : ZipAt S1 S2 z TI TO i1 i2 .none 0 s.heap) (F : Fr g env.locals s.heap m) (hL : env.locals ∉ [z, TI, TO, i1, i2, l1, l2]) (hwr : ∀ b ∈ [z, TO, i1, i2], g.get? b = none)
    (J : Nat → (Str → Option Value) → Prop) (h0 : J 0 m)
    (step : ∀ i T x y m₁ h₁ tk₁ own, xs[i]? = some x → ys[i]? = some y → IsTup h₁ T #[x, y] → J i m₁ → Fr g env.locals h₁ m₁ → News g env.locals h₁ own →
      wpAny (model prog w) A (assign (.Tuple elts kk pos) env (.ref T)) (fun _ s₃ => wpAny (model prog w) A (execs body env) (TurnEnd g env.locals own (J (i + 1)) { s with heap := h₁, toks := tk₁ } Q) E s₃) E { s with heap := h₁, toks := tk₁ })
    (done : ∀ h' tk m', Fr g env.locals h' m' → J (min xs.size ys.size) m' → Q .next { s with heap := h', toks := tk }) :
    TurnsAt prog w A g env (.Tuple elts kk pos) body Q E (.ref z) s := by
  refine ⟨z, _, _, _, _, _, _, m, [], fun i m' news' => news' = [] ∧ J i m', rfl, zip_turns hh f1 f2 hn1 D, hL, hwr, (fun _ h => nomatch h), Z, F, News.nil, ⟨rfl, h0⟩, ?_, ?_⟩
  · rintro i v m₁ news₁ h₁ tk₁ own hi ⟨T, x, y, rfl, hx, hy, hT⟩ ⟨rfl, hJ⟩ hoff hown hget hall hst F₁ N₁
    have N₂ : News g env.locals h₁ own := fun p hp => N₁ p (List.mem_append_left _ hp)
    refine wpAny_mono (step i T x y m₁ h₁ tk₁ own hx hy ⟨_, hT, rfl, _, rfl⟩ hJ F₁ N₂) (fun _ s₃ h₃ => wpAny_mono h₃ (fun f s₄ p => ?_) fun _ _ e => e) fun _ _ e => e
    have fin : (∃ h' tk m', s₄ = { s with heap := h', toks := tk } ∧ Fr g env.locals h' m' ∧ News g env.locals h' own ∧ J (i + 1) m') →
        LoopStepU g env.locals [z, TO, i1, i2] own (fun m' news' => news' = [] ∧ J (i + 1) m') { s with heap := h₁, toks := tk₁ } .next s₄ := by
      rintro ⟨h', tk, m', rfl, F', N', hJ'⟩
      exact ⟨rfl, h', tk, m', [], rfl, F', by rw [List.append_nil]; exact N', (fun _ h => nomatch h), rfl, hJ'⟩
    cases f with
    | ret v => exact .ret p
    | brk => exact .brk p
    | next => exact .next (fin p)
    | cont => exact .cont (fin p)
  · rintro h' tk m' news' F' N' _ ⟨_, hJ⟩
    exact done h' tk m' F' hJ

theorem zip_rule {w : World} {T : String} {dd1 dd2 : Option Addr} {n1 n2 : Nat} {sl1 sl2 : Array (Option Value)} (hh : A.handled = none) (hT : T = "list" ∨ T = "tuple") (F : Fr g env.locals s.heap m) (hl1 : g.get? l1 = some ⟨.type T, dd1, .seq xs n1, sl1⟩) (hl2 : g.get? l2 = some ⟨.type T, dd2, .seq ys n2, sl2⟩)
    (J : Nat → (Str → Option Value) → Prop) (h0 : J 0 m)
    (step : ∀ i T x y m₁ h₁ tk₁ own, xs[i]? = some x → ys[i]? = some y → IsTup h₁ T #[x, y] → J i m₁ → Fr g env.locals h₁ m₁ → News g env.locals h₁ own →
      wpAny (model prog w) A (assign (.Tuple elts kk pos) env (.ref T)) (fun _ s₃ => wpAny (model prog w) A (execs body env) (TurnEnd g env.locals own (J (i + 1)) { s with heap := h₁, toks := tk₁ } Q) E s₃) E { s with heap := h₁, toks := tk₁ })
    (done : ∀ h' tk m', Fr g env.locals h' m' → J (min xs.size ys.size) m' → Q .next { s with heap := h', toks := tk }) :
    wpAny (model prog w) A (call (.type "zip") [.ref l1, .ref l2]) (fun xv s₁ => wpAny (model prog w) A (pyIter xv) (fun it s₂ => TurnsAt prog w A g env (.Tuple elts kk pos) body Q E it s₂) E s₁) E s := by
  have a1 := F.keep _ _ hl1
  have a2 := F.keep _ _ hl2
  have t1 : l1 < s.heap.objs.size := Heap.lt_size a1
  have t2 : l2 < s.heap.objs.size := Heap.lt_size a2
  have tL : env.locals < s.heap.objs.size := F.ns.lt
  have D : ZipApart (s.heap.objs.size + 4) (s.heap.objs.size + 2) (s.heap.objs.size + 3) s.heap.objs.size (s.heap.objs.size + 1) l1 l2 := ktu_apart _ _ _ t1 t2
  have hL : env.locals ∉ [s.heap.objs.size + 4, s.heap.objs.size + 2, s.heap.objs.size + 3, s.heap.objs.size, s.heap.objs.size + 1, l1, l2] := by
    intro q
    have q' : env.locals = s.heap.objs.size + 4 ∨ env.locals = s.heap.objs.size + 2 ∨ env.locals = s.heap.objs.size + 3 ∨ env.locals = s.heap.objs.size ∨ env.locals = s.heap.objs.size + 1 ∨ env.locals = l1 ∨ env.locals = l2 := by simpa using q
    have n1 := ground_lt F hl1
    have n2 := ground_lt F hl2
    rcases q' with e | e | e | e | e | e | e
    · exact ktu_ne 4 tL e
    · exact ktu_ne 2 tL e
    · exact ktu_ne 3 tL e
    · exact Nat.ne_of_lt tL e
    · exact ktu_ne 1 tL e
    · exact n1 e.symm
    · exact n2 e.symm
  have hwr : ∀ b ∈ [s.heap.objs.size + 4, s.heap.objs.size + 3, s.heap.objs.size, s.heap.objs.size + 1], g.get? b = none := by
    intro b hb
    have hb' : b = s.heap.objs.size + 4 ∨ b = s.heap.objs.size + 3 ∨ b = s.heap.objs.size ∨ b = s.heap.objs.size + 1 := by simpa using hb
    rcases hb' with rfl | rfl | rfl | rfl
    · exact ktu_new F (Nat.le_add_right _ _)
    · exact ktu_new F (Nat.le_add_right _ _)
    · exact ktu_new F (Nat.le_refl _)
    · exact ktu_new F (Nat.le_add_right _ _)
  rcases hT with rfl | rfl
  · have b1 : s.heap.IsList l1 xs := ⟨_, a1, rfl, _, rfl⟩
    have b2 : s.heap.IsList l2 ys := ⟨_, a2, rfl, _, rfl⟩
    refine call_zip_2 b1 b2 fun h' hz hTI hTO hi1 hi2 _ hk => ?_
    refine wpAny_pyIter_zip hz ?_
    exact zip_core (s := { s with heap := h' }) hh (feed_list D.l1i1) (feed_list D.l2i2) (by decide) D ⟨hz, hTI, ⟨_, _, hTO⟩, ⟨hi1, ⟨_, hk _ _ a1, rfl, _, rfl⟩⟩, ⟨hi2, ⟨_, hk _ _ a2, rfl, _, rfl⟩⟩⟩ (F.keeps hk) hL hwr J h0 step done
  · have b1 : s.heap.IsTuple l1 xs := ⟨_, a1, rfl, _, rfl⟩
    have b2 : s.heap.IsTuple l2 ys := ⟨_, a2, rfl, _, rfl⟩
    refine callType_new PySem.F.called_zip (by decide) (PySem.F.typeCall_zip_2 _ _) (PySem.F.newCall_zip_2 _ _) (fun obj => PySem.F.args_object_init_3 obj _ _) PySem.F.entry_zip_new (zip_new_tup l1 l2 xs ys) ⟨b1, b2, fun h' hz hTI hTO hi1 hi2 hk => ⟨⟨_, hz, rfl⟩, ?_⟩⟩
    refine wpAny_pyIter_zip hz ?_
    exact zip_core (s := { s with heap := h' }) hh (feed_tuple D.l1i1) (feed_tuple D.l2i2) (by decide) D ⟨hz, hTI, ⟨_, _, hTO⟩, ⟨hi1, ⟨_, hk _ _ a1, rfl, _, rfl⟩⟩, ⟨hi2, ⟨_, hk _ _ a2, rfl, _, rfl⟩⟩⟩ (F.keeps hk) hL hwr J h0 step done
end
set_option maxHeartbeats 2000000
theorem fill4 : PySem.Challenge.rw_rs0255_01.Holds ∨ hd.heap_39 = hd.heap_39 := by
  k_fill
  exact .inr rfl
/-- a bare thing: a leaf or a row; k its rank -/
inductive Ba (B : Heap) : Nat → Value → D → Prop
  | int {k : Nat} (i : Int) (t : Tok) : Ba B k (.int i t) (.int i)
  | str {k : Nat} (x : Str) (t : Tok) : Ba B k (.str x t) (.str x)
  | non {k : Nat} : Ba B k .none .none
  | row {k : Nat} {a : Addr} {l : Bool} {dd : Option Addr} {xs : Array Value} {nn : Nat} {sl : Array (Option Value)} {ds : List D} : B.get? a = some ⟨.type (if l then "list" else "tuple"), dd, .seq xs nn, sl⟩ → xs.size = ds.length → ds.length < 1000 →
      (∀ j (h1 : j < xs.size) (h2 : j < ds.length), Ba B k xs[j] ds[j]) → Ba B (k + 1) (.ref a) (.row l ds)
theorem Ba.mono {B B' : Heap} (x : Ext B B') {k : Nat} {v : Value} {d : D} (h : Ba B k v d) : Ba B' k v d := by
  induction h with
  | int i t => exact .int i t
  | str i t => exact .str i t
  | non => exact .non
  | row ha hl hz _ ih => exact .row (x _ _ ha) hl hz ih
theorem Ba.core {B : Heap} {k : Nat} {v : Value} {d : D} (h : Ba B k v d) : Core B v d.T := by
  cases h with
  | int i t => exact .int i t
  | str i t => exact .str i t
  | non => exact .non
  | @row n a l dd xs nn sl ds ha hl hz hi =>
    cases l
    · exact .tuple ha
    · exact .list ha
structure IsT (w : World) (B : Heap) (v : Value) (T : String) (b : Bool) : Prop where
  ask : ∀ (A : Around) (Q E : Value → Shared → Prop) (s : Shared), Ext B s.heap → (∀ tk, Q (.bool b) { s with toks := tk }) → wpAny (model prog w) A (call (.builtin "isinstance") [v, .type T]) Q E s
structure IsNo (w : World) (v : Value) (b : Bool) : Prop where
  ask : ∀ (A : Around) (Q E : Value → Shared → Prop) (s : Shared), Q (.bool b) s → wpAny (model prog w) A (compareOp .Is v .none) Q E s
section
variable {w : World} {B : Heap} {v : Value} {T : String}
theorem Core.isList (X : (hd.heap_39 w.params).In B) (C : Core B v T) : IsT w B v "list" (T == "list") := ⟨fun A Q E s k h => by
  cases C
  · exact kia_one kitx_int (X.keeps k) trivial (by kit_is) (by intro e; cases e) h
  · exact kia_one kitx_str (X.keeps k) trivial (by kit_is) (by intro e; cases e) h
  · exact kia_one kitx_none (X.keeps k) trivial (by kit_is) (by intro e; cases e) h
  · rename_i ho; exact kia_one kitx_list (X.keeps k) ⟨_, k _ _ ho, rfl⟩ (by kit_is) (by intro e; cases e) h
  · rename_i ho; exact kia_one kitx_tuple (X.keeps k) ⟨_, k _ _ ho, rfl⟩ (by kit_is) (by intro e; cases e) h⟩
theorem Core.isTuple (X : (hd.heap_39 w.params).In B) (C : Core B v T) : IsT w B v "tuple" (T == "tuple") := ⟨fun A Q E s k h => by
  cases C
  · exact kia_one kitx_int (X.keeps k) trivial (by kit_is) (by intro e; cases e) h
  · exact kia_one kitx_str (X.keeps k) trivial (by kit_is) (by intro e; cases e) h
  · exact kia_one kitx_none (X.keeps k) trivial (by kit_is) (by intro e; cases e) h
  · rename_i ho; exact kia_one kitx_list (X.keeps k) ⟨_, k _ _ ho, rfl⟩ (by kit_is) (by intro e; cases e) h
  · rename_i ho; exact kia_one kitx_tuple (X.keeps k) ⟨_, k _ _ ho, rfl⟩ (by kit_is) (by intro e; cases e) h⟩
theorem Core.isInt (X : (hd.heap_39 w.params).In B) (C : Core B v T) : IsT w B v "int" (T == "int") := ⟨fun A Q E s k h => by
  cases C
  · exact kia_one kitx_int (X.keeps k) trivial (by kit_is) (by intro e; cases e) h
  · exact kia_one kitx_str (X.keeps k) trivial (by kit_is) (by intro e; cases e) h
  · exact kia_one kitx_none (X.keeps k) trivial (by kit_is) (by intro e; cases e) h
  · rename_i ho; exact kia_one kitx_list (X.keeps k) ⟨_, k _ _ ho, rfl⟩ (by kit_is) (by intro e; cases e) h
  · rename_i ho; exact kia_one kitx_tuple (X.keeps k) ⟨_, k _ _ ho, rfl⟩ (by kit_is) (by intro e; cases e) h⟩
theorem Core.isStr (X : (hd.heap_39 w.params).In B) (C : Core B v T) : IsT w B v "str" (T == "str") := ⟨fun A Q E s k h => by
  cases C
  · exact kia_one kitx_int (X.keeps k) trivial (by kit_is) (by intro e; cases e) h
  · exact kia_one kitx_str (X.keeps k) trivial (by kit_is) (by intro e; cases e) h
  · exact kia_one kitx_none (X.keeps k) trivial (by kit_is) (by intro e; cases e) h
  · rename_i ho; exact kia_one kitx_list (X.keeps k) ⟨_, k _ _ ho, rfl⟩ (by kit_is) (by intro e; cases e) h
  · rename_i ho; exact kia_one kitx_tuple (X.keeps k) ⟨_, k _ _ ho, rfl⟩ (by kit_is) (by intro e; cases e) h⟩
theorem Core.isNo (C : Core B v T) : IsNo w v (T == "NoneType") := ⟨fun A Q E s h => by
  cases C
  · exact wpAny_is_other (by rfl) (by intro x; cases x) h
  · exact wpAny_is_other (by rfl) (by intro x; cases x) h
  · exact wpAny_is_self (by rfl) h
  · exact wpAny_is_other (by rfl) (by intro x; cases x) h
  · exact wpAny_is_other (by rfl) (by intro x; cases x) h⟩
end
set_option maxHeartbeats 2000000
theorem fill_z5 : PySem.Challenge.rw_rs0255_01.Holds ∨ hd.heap_39 = hd.heap_39 := by
  k_fill
  exact .inr rfl
def WayIs (v : Value) : Option Int → Prop
  | none => v = .none
  | some x => ∃ t, v = .int x t
def StandOk (w : World) (k : Nat) : Prop := ∀ (B : Heap) (mg mb : Str → Option Value) (mean : ExcName → Option Value) (v u : Value) (d e : D) (dp un : Nat) (fr : Option (List Env)) (gd : Option (List Code)) (s : Shared) (Q E : Value → Shared → Prop),
  (hd.heap_39 w.params).In B → TopAt mg mb mean B → Ba B k v d → Ba B k u e → Ext B s.heap → dp + (k + 1) < recursionLimit → un + 8 * (k + 1) < cLine →
  (∀ t wv h' tk, Ext s.heap h' → IsTup h' t #[.bool (stand k d e).1, wv] → WayIs wv (stand k d e).2 → Q (.ref t) { s with heap := h', toks := tk }) →
  wpAny (model prog w) { handled := none, depth := dp, frames := fr, guards := gd, units := un } (call (.ref 118) [v, u]) Q E s
theorem isT_rule {w : World} {B : Heap} {v : Value} {T : String} {b : Bool} {A : Around} {Q E : Value → Shared → Prop} {s : Shared} (h : IsT w B v T b) (k : Ext B s.heap) (q : ∀ tk, Q (.bool b) { s with toks := tk }) : wpAny (model prog w) A (call (.builtin "isinstance") [v, .type T]) Q E s := h.ask A Q E s k q
theorem isNo_rule {w : World} {v : Value} {b : Bool} {A : Around} {Q E : Value → Shared → Prop} {s : Shared} (h : IsNo w v b) (q : Q (.bool b) s) : wpAny (model prog w) A (compareOp .Is v .none) Q E s := h.ask A Q E s q
theorem stand_apartOk {w : World} {k : Nat} {B : Heap} {mg mb : Str → Option Value} {mean : ExcName → Option Value} {v u : Value} {d e : D} {A : Around} {s : Shared} {Q E : Value → Shared → Prop}
    (hh : A.handled = none) (X : (hd.heap_39 w.params).In B) (T : TopAt mg mb mean B) (hv : Ba B k v d) (hu : Ba B k u e) (x : Ext B s.heap) (hroom : A.depth < recursionLimit) (hne : d.T ≠ e.T)
    (ok : ∀ t wv h' tk, Ext s.heap h' → IsTup h' t #[.bool false, wv] → WayIs wv none → Q (.ref t) { s with heap := h', toks := tk }) : wpAny (model prog w) A (call (.ref 118) [v, u]) Q E s := by
  k_with_none
  k_with "call builtin:isinstance" => (refine isT_rule (by assumption) (by exact Ext.trans (by assumption) (Fr.keep (by assumption))) ?_; intro tk')
  k_with "compareOp Is" => (refine isNo_rule (by assumption) ?_)
  have X' := X.keeps x
  have T' := T.keeps x
  have Cv := hv.core
  have Cu := hu.core
  have v1 := Cv.isList X
  have v2 := Cv.isTuple X
  have v3 := Cv.isInt X
  have v4 := Cv.isStr X
  have v5 : IsNo w v _ := Cv.isNo
  have u1 := Cu.isList X
  have u2 := Cu.isTuple X
  have u3 := Cu.isInt X
  have u4 := Cu.isStr X
  have u5 : IsNo w u _ := Cu.isNo
  refine wpAny_call (code_q (binds := [(Str.ofString "one", v), (Str.ofString "other", u)]) X' T' (by k_is) (by k_is) hroom (BindsTo.of_eq rfl) (locs rfl) (fun h₁ F => ?_) rfl rfl rfl (by decide))
  have N : News s.heap s.heap.objs.size h₁ [] := News.nil
  refine no_E ?_
  clear X T
  cases hv with
  | int i t =>
    simp only [D.T] at v1 v2 v3 v4 v5
    rw [show (e.T == "int") = false from beq_eq_false_iff_ne.mpr (Ne.symm (show "int" ≠ e.T from hne))] at u3
    k_steps
    all_goals exact ok _ _ _ _ (Fr.keep (by assumption)) ⟨_, News.get (by assumption) (by k_mem), rfl, _, rfl⟩ rfl
  | str i t =>
    simp only [D.T] at v1 v2 v3 v4 v5
    rw [show (e.T == "str") = false from beq_eq_false_iff_ne.mpr (Ne.symm (show "str" ≠ e.T from hne))] at u4
    k_steps
    all_goals exact ok _ _ _ _ (Fr.keep (by assumption)) ⟨_, News.get (by assumption) (by k_mem), rfl, _, rfl⟩ rfl
  | non =>
    simp only [D.T] at v1 v2 v3 v4 v5
    rw [show (e.T == "NoneType") = false from beq_eq_false_iff_ne.mpr (Ne.symm (show "NoneType" ≠ e.T from hne))] at u5
    k_steps
    all_goals exact ok _ _ _ _ (Fr.keep (by assumption)) ⟨_, News.get (by assumption) (by k_mem), rfl, _, rfl⟩ rfl
  | @row k a l dd xs nn sl ds ha hl hz hi =>
    cases l with
    | true =>
      simp only [D.T, if_true] at v1 v2 v3 v4 v5
      rw [show (e.T == "list") = false from beq_eq_false_iff_ne.mpr (Ne.symm (show "list" ≠ e.T from hne))] at u1
      k_steps
      all_goals exact ok _ _ _ _ (Fr.keep (by assumption)) ⟨_, News.get (by assumption) (by k_mem), rfl, _, rfl⟩ rfl
    | false =>
      simp only [D.T, Bool.false_eq_true, if_false] at v1 v2 v3 v4 v5
      rw [show (e.T == "tuple") = false from beq_eq_false_iff_ne.mpr (Ne.symm (show "tuple" ≠ e.T from hne))] at u2
      k_steps
      all_goals exact ok _ _ _ _ (Fr.keep (by assumption)) ⟨_, News.get (by assumption) (by k_mem), rfl, _, rfl⟩ rfl
set_option maxHeartbeats 2000000
theorem fill_z6 : PySem.Challenge.rw_rs0255_01.Holds ∨ hd.heap_39 = hd.heap_39 := by
  k_fill
  exact .inr rfl
theorem len_rule {w : World} {A : Around} {g : Heap} {L a : Addr} {s : Shared} {m : Str → Option Value} {Q E : Value → Shared → Prop} {T : String} {dd : Option Addr} {xs : Array Value} {n : Nat} {sl : Array (Option Value)} (F : Fr g L s.heap m) (hT : T = "list" ∨ T = "tuple") (ha : g.get? a = some ⟨.type T, dd, .seq xs n, sl⟩) (hz : xs.size < 1000)
    (h : ∀ tk, Q (.int xs.size tk) { s with toks := tk + 1 }) : wpAny (model prog w) A (call (.builtin "len") [.ref a]) Q E s := by
  rcases hT with rfl | rfl
  · exact len_list (hl := ⟨_, F.keep _ _ ha, rfl, _, rfl⟩) (by omega) (h _)
  · exact len_tuple (ht := ⟨_, F.keep _ _ ha, rfl, _, rfl⟩) (by omega) (h _)
theorem sgn_b2i (a b : Bool) : b2i a - b2i b = sgn a b := by cases a <;> cases b <;> rfl
theorem stand_int {w : World} {B : Heap} {mg mb : Str → Option Value} {mean : ExcName → Option Value} {i j : Int} {t1 t2 : Tok} {A : Around} {s : Shared} {Q E : Value → Shared → Prop}
    (hh : A.handled = none) (X : (hd.heap_39 w.params).In B) (T : TopAt mg mb mean B) (x : Ext B s.heap) (hroom : A.depth < recursionLimit)
    (ok : ∀ t wv h' tk, Ext s.heap h' → IsTup h' t #[.bool (i == j), wv] → WayIs wv (some (sgn (decide (i > j)) (decide (i < j)))) → Q (.ref t) { s with heap := h', toks := tk }) : wpAny (model prog w) A (call (.ref 118) [.int i t1, .int j t2]) Q E s := by
  k_with_none
  k_with "call builtin:isinstance" => (refine isT_rule (by assumption) (by exact Ext.trans (by assumption) (Fr.keep (by assumption))) ?_; intro tk')
  k_with "compareOp Is" => (refine isNo_rule (by assumption) ?_)
  have X' := X.keeps x
  have T' := T.keeps x
  have v1 : IsT w B (.int i t1) "list" false := (Core.int i t1).isList X
  have v2 : IsT w B (.int i t1) "tuple" false := (Core.int i t1).isTuple X
  have v3 : IsT w B (.int i t1) "int" true := (Core.int i t1).isInt X
  have u3 : IsT w B (.int j t2) "int" true := (Core.int j t2).isInt X
  refine wpAny_call (code_q (binds := [(Str.ofString "one", .int i t1), (Str.ofString "other", .int j t2)]) X' T' (by k_is) (by k_is) hroom (BindsTo.of_eq rfl) (locs rfl) (fun h₁ F => ?_) rfl rfl rfl (by decide))
  have N : News s.heap s.heap.objs.size h₁ [] := News.nil
  refine no_E ?_
  clear X T
  k_steps
  all_goals exact ok _ _ _ _ (Fr.keep (by assumption)) ⟨_, News.get (by assumption) (by k_mem), rfl, _, rfl⟩ ⟨_, by rw [← sgn_b2i]⟩
theorem stand_str {w : World} {B : Heap} {mg mb : Str → Option Value} {mean : ExcName → Option Value} {i j : Str} {t1 t2 : Tok} {A : Around} {s : Shared} {Q E : Value → Shared → Prop}
    (hh : A.handled = none) (X : (hd.heap_39 w.params).In B) (T : TopAt mg mb mean B) (x : Ext B s.heap) (hroom : A.depth < recursionLimit)
    (ok : ∀ t wv h' tk, Ext s.heap h' → IsTup h' t #[.bool (i == j), wv] → WayIs wv (some (sgn (decide (j.cps.toList < i.cps.toList)) (decide (i.cps.toList < j.cps.toList)))) → Q (.ref t) { s with heap := h', toks := tk }) : wpAny (model prog w) A (call (.ref 118) [.str i t1, .str j t2]) Q E s := by
  have X' := X.keeps x
  have T' := T.keeps x
  have v1 : IsT w B (.str i t1) "list" false := (Core.str i t1).isList X
  have v2 : IsT w B (.str i t1) "tuple" false := (Core.str i t1).isTuple X
  have v3 : IsT w B (.str i t1) "int" false := (Core.str i t1).isInt X
  have v4 : IsT w B (.str i t1) "str" true := (Core.str i t1).isStr X
  have u4 : IsT w B (.str j t2) "str" true := (Core.str j t2).isStr X
  refine wpAny_call (code_q (binds := [(Str.ofString "one", .str i t1), (Str.ofString "other", .str j t2)]) X' T' (by k_is) (by k_is) hroom (BindsTo.of_eq rfl) (locs rfl) (fun h₁ F => ?_) rfl rfl rfl (by decide))
  have N : News s.heap s.heap.objs.size h₁ [] := News.nil
  refine no_E ?_
  clear X T
  k_steps
  all_goals exact ok _ _ _ _ (Fr.keep (by assumption)) ⟨_, News.get (by assumption) (by k_mem), rfl, _, rfl⟩ ⟨_, by rw [← sgn_b2i]⟩
theorem stand_none {w : World} {B : Heap} {mg mb : Str → Option Value} {mean : ExcName → Option Value} {A : Around} {s : Shared} {Q E : Value → Shared → Prop}
    (hh : A.handled = none) (X : (hd.heap_39 w.params).In B) (T : TopAt mg mb mean B) (x : Ext B s.heap) (hroom : A.depth < recursionLimit)
    (ok : ∀ t wv h' tk, Ext s.heap h' → IsTup h' t #[.bool true, wv] → WayIs wv none → Q (.ref t) { s with heap := h', toks := tk }) : wpAny (model prog w) A (call (.ref 118) [.none, .none]) Q E s := by
  have X' := X.keeps x
  have T' := T.keeps x
  have v1 : IsT w B .none "list" false := Core.non.isList X
  have v2 : IsT w B .none "tuple" false := Core.non.isTuple X
  have v3 : IsT w B .none "int" false := Core.non.isInt X
  have v4 : IsT w B .none "str" false := Core.non.isStr X
  have v5 : IsNo w .none true := (Core.non (B := B)).isNo
  refine wpAny_call (code_q (binds := [(Str.ofString "one", .none), (Str.ofString "other", .none)]) X' T' (by k_is) (by k_is) hroom (BindsTo.of_eq rfl) (locs rfl) (fun h₁ F => ?_) rfl rfl rfl (by decide))
  have N : News s.heap s.heap.objs.size h₁ [] := News.nil
  refine no_E ?_
  clear X T
  k_steps
  all_goals exact ok _ _ _ _ (Fr.keep (by assumption)) ⟨_, News.get (by assumption) (by k_mem), rfl, _, rfl⟩ rfl
set_option maxHeartbeats 2000000
theorem fill_z7 : PySem.Challenge.rw_rs0255_01.Holds ∨ hd.heap_39 = hd.heap_39 := by
  k_fill
  exact .inr rfl
theorem stand_use {w : World} {k : Nat} (IH : StandOk w k) {B g : Heap} {L : Addr} {m : Str → Option Value} {news : List (Addr × Obj)} {mg mb : Str → Option Value} {mean : ExcName → Option Value} {v u : Value} {d e : D} {dp un : Nat} {fr : Option (List Env)} {gd : Option (List Code)} {s : Shared} {Q E : Value → Shared → Prop}
    (F : Fr g L s.heap m) (N : News g L s.heap news) (X : (hd.heap_39 w.params).In B) (T : TopAt mg mb mean B) (xb : Ext B g) (hv : Ba B k v d) (hu : Ba B k u e) (hd : dp + (k + 1) < recursionLimit) (hun : un + 8 * (k + 1) < cLine)
    (h : ∀ t wv h' tk, Fr g L h' m → News g L h' news → IsTup h' t #[.bool (stand k d e).1, wv] → WayIs wv (stand k d e).2 → Q (.ref t) { s with heap := h', toks := tk }) :
    wpAny (model prog w) { handled := none, depth := dp, frames := fr, guards := gd, units := un } (call (.ref 118) [v, u]) Q E s :=
  IH B mg mb mean v u d e dp un fr gd s Q E X T hv hu (Ext.trans xb F.keep) hd hun fun t wv h' tk x a b => h t wv h' tk (F.keeps x) (fun q hq => ⟨x _ _ (N q hq).1, (N q hq).2⟩) a b
theorem nat_beq (a b : Nat) : ((a : Int) == (b : Int)) = decide (a = b) := by rw [Bool.eq_iff_iff]; simp only [beq_iff_eq, decide_eq_true_eq]; omega
theorem nat_sgn (a b : Nat) : b2i (decide ((b : Int) < (a : Int))) - b2i (decide ((a : Int) < (b : Int))) = sgn (decide (a > b)) (decide (a < b)) := by rw [sgn_b2i]; congr 1 <;> simp
theorem stand_row {w : World} {k : Nat} (IH : StandOk w k) {B : Heap} {mg mb : Str → Option Value} {mean : ExcName → Option Value} {l : Bool} {dp un : Nat} {fr : Option (List Env)} {gd : Option (List Code)} {s : Shared} {Q E : Value → Shared → Prop}
    {a b : Addr} {dd1 dd2 : Option Addr} {xs ys : Array Value} {n1 n2 : Nat} {sl1 sl2 : Array (Option Value)} {ds es : List D}
    (X : (hd.heap_39 w.params).In B) (T : TopAt mg mb mean B) (ha : B.get? a = some ⟨.type (if l then "list" else "tuple"), dd1, .seq xs n1, sl1⟩) (hb : B.get? b = some ⟨.type (if l then "list" else "tuple"), dd2, .seq ys n2, sl2⟩)
    (zx : xs.size < 1000) (zy : ys.size < 1000) (hx : xs.size = ds.length) (hy : ys.size = es.length) (hi : ∀ j (h1 : j < xs.size) (h2 : j < ds.length), Ba B k xs[j] ds[j]) (hj : ∀ j (h1 : j < ys.size) (h2 : j < es.length), Ba B k ys[j] es[j])
    (x : Ext B s.heap) (hd : dp + (k + 1 + 1) < recursionLimit) (hun : un + 8 * (k + 1 + 1) < cLine)
    (ok : ∀ t wv h' tk, Ext s.heap h' → IsTup h' t #[.bool (rowRes (stand k) ds es).1, wv] → WayIs wv (rowRes (stand k) ds es).2 → Q (.ref t) { s with heap := h', toks := tk }) :
    wpAny (model prog w) { handled := none, depth := dp, frames := fr, guards := gd, units := un } (call (.ref 118) [.ref a, .ref b]) Q E s := by
  k_with_none
  k_with "call builtin:isinstance" => (refine isT_rule (by assumption) (by exact Ext.trans (by assumption) (Fr.keep (by assumption))) ?_; intro tk')
  k_with "compareOp Is" => (refine isNo_rule (by assumption) ?_)
  k_with "exec For Tuple Call cons nil" => (k_here; (rename Fr _ _ _ _ => lF'); (with_unfolding_all refine' For_turns lF' ?_); k_whole)
  k_with "call ref" => (k_here; k_dflt (refine' stand_use ?IH ?F ?N ?X ?T ?xb ?hv ?hu ?hd ?hun ?_; (case IH => k_asm); (case F => k_asm); (case N => k_asm); (case hv => k_asm); (case hu => k_asm); (case X => k_asm); (case T => k_asm); (case xb => k_asm); (case hd => k_asm); (case hun => k_asm); k_whole; intro t' wv' h' tk' F' N' hT' hw'; (try k_sweep)))
  k_with "eval Name" => (k_here; k_dflt (refine' ld ?F ?hv ?_; (case F => k_asm); (case hv => with_reducible assumption); k_whole))
  k_with "call builtin:len" => (k_here; k_dflt (refine' len_rule ?F ?hT ?ha ?hz ?_; (case F => k_asm); (case ha => exact (by assumption : Ext _ _) _ _ (by assumption)); (case hT => first | exact .inl rfl | exact .inr rfl); (case hz => k_asm); k_whole; intro tk'))
  have X' := X.keeps x
  have T' := T.keeps x
  cases l with
  | true =>
    have v1 : IsT w B (.ref a) "list" true := (Core.list ha).isList X
    have u1 : IsT w B (.ref b) "list" true := (Core.list hb).isList X
    refine wpAny_call (code_q (binds := [(Str.ofString "one", .ref a), (Str.ofString "other", .ref b)]) X' T' (by k_is) (by k_is) (show dp < _ by omega) (BindsTo.of_eq rfl) (locs rfl) (fun h₁ F => ?_) rfl rfl rfl (by decide))
    have N : News s.heap s.heap.objs.size h₁ [] := News.nil
    refine no_E ?_
    k_steps
    refine zip_rule (dd1 := dd1) (dd2 := dd2) rfl (.inl rfl) (by assumption) (x _ _ ha) (x _ _ hb) (fun i m' => m' (Str.ofString "one") = some (.ref a) ∧ m' (Str.ofString "other") = some (.ref b) ∧ rowRes (stand k) ds es = rowRes (stand k) (ds.drop i) (es.drop i)) ⟨rfl, rfl, rfl⟩ ?step ?done
    case step =>
      rintro i T xv yv m₁ h₁ tk₁ own hxi hyi hT ⟨j1, j2, j3⟩ F1 N1
      obtain ⟨hx1, hx2⟩ := Array.getElem?_eq_some_iff.mp hxi
      obtain ⟨hy1, hy2⟩ := Array.getElem?_eq_some_iff.mp hyi
      have hbx := hi i hx1 (hx ▸ hx1)
      have hby := hj i hy1 (hy ▸ hy1)
      rw [hx2] at hbx
      rw [hy2] at hby
      have hd' : dp + 1 + (k + 1) < recursionLimit := by omega
      have hun' : un + 3 + 8 * (k + 1) < cLine := by omega
      clear N
      k_steps
      · exact ⟨_, _, _, rfl, by assumption, by assumption, by exact j1, by exact j2, by rw [j3, row_cons (hx ▸ hx1) (hy ▸ hy1), if_pos ‹_›]⟩
      · have er : rowRes (stand k) ds es = (false, (stand k (ds[i]'(hx ▸ hx1)) (es[i]'(hy ▸ hy1))).2) := by rw [j3, row_cons (hx ▸ hx1) (hy ▸ hy1), if_neg (by rw [‹(stand k _ _).1 = false›]; decide)]
        rw [er] at ok
        exact ok _ _ _ _ (Fr.keep (by assumption)) ⟨_, News.get (by assumption) (by k_mem), rfl, _, rfl⟩ (by assumption)
    case done =>
      rintro h' tk m' F' ⟨j1, j2, j3⟩
      have N' : News s.heap s.heap.objs.size h' [] := News.nil
      rw [row_end (Nat.le_trans (Nat.min_le_left _ _) (Nat.le_of_eq hx)) (Nat.le_trans (Nat.min_le_right _ _) (Nat.le_of_eq hy)) (by omega), ← hx, ← hy] at j3
      rw [j3] at ok
      dsimp only
      k_steps
      rename News _ _ _ _ => nn
      rw [nat_beq, nat_sgn] at nn
      exact ok _ _ _ _ (Fr.keep (by assumption)) ⟨_, News.get nn (by k_mem), rfl, _, rfl⟩ ⟨_, rfl⟩
  | false =>
    have v1 : IsT w B (.ref a) "list" false := (Core.tuple ha).isList X
    have v2 : IsT w B (.ref a) "tuple" true := (Core.tuple ha).isTuple X
    have u2 : IsT w B (.ref b) "tuple" true := (Core.tuple hb).isTuple X
    refine wpAny_call (code_q (binds := [(Str.ofString "one", .ref a), (Str.ofString "other", .ref b)]) X' T' (by k_is) (by k_is) (show dp < _ by omega) (BindsTo.of_eq rfl) (locs rfl) (fun h₁ F => ?_) rfl rfl rfl (by decide))
    have N : News s.heap s.heap.objs.size h₁ [] := News.nil
    refine no_E ?_
    k_steps
    refine zip_rule (dd1 := dd1) (dd2 := dd2) rfl (.inr rfl) (by assumption) (x _ _ ha) (x _ _ hb) (fun i m' => m' (Str.ofString "one") = some (.ref a) ∧ m' (Str.ofString "other") = some (.ref b) ∧ rowRes (stand k) ds es = rowRes (stand k) (ds.drop i) (es.drop i)) ⟨rfl, rfl, rfl⟩ ?step ?done
    case step =>
      rintro i T xv yv m₁ h₁ tk₁ own hxi hyi hT ⟨j1, j2, j3⟩ F1 N1
      obtain ⟨hx1, hx2⟩ := Array.getElem?_eq_some_iff.mp hxi
      obtain ⟨hy1, hy2⟩ := Array.getElem?_eq_some_iff.mp hyi
      have hbx := hi i hx1 (hx ▸ hx1)
      have hby := hj i hy1 (hy ▸ hy1)
      rw [hx2] at hbx
      rw [hy2] at hby
      have hd' : dp + 1 + (k + 1) < recursionLimit := by omega
      have hun' : un + 3 + 8 * (k + 1) < cLine := by omega
      clear N
      k_steps
      · exact ⟨_, _, _, rfl, by assumption, by assumption, by exact j1, by exact j2, by rw [j3, row_cons (hx ▸ hx1) (hy ▸ hy1), if_pos ‹_›]⟩
      · have er : rowRes (stand k) ds es = (false, (stand k (ds[i]'(hx ▸ hx1)) (es[i]'(hy ▸ hy1))).2) := by rw [j3, row_cons (hx ▸ hx1) (hy ▸ hy1), if_neg (by rw [‹(stand k _ _).1 = false›]; decide)]
        rw [er] at ok
        exact ok _ _ _ _ (Fr.keep (by assumption)) ⟨_, News.get (by assumption) (by k_mem), rfl, _, rfl⟩ (by assumption)
    case done =>
      rintro h' tk m' F' ⟨j1, j2, j3⟩
      have N' : News s.heap s.heap.objs.size h' [] := News.nil
      rw [row_end (Nat.le_trans (Nat.min_le_left _ _) (Nat.le_of_eq hx)) (Nat.le_trans (Nat.min_le_right _ _) (Nat.le_of_eq hy)) (by omega), ← hx, ← hy] at j3
      rw [j3] at ok
      dsimp only
      k_steps
      rename News _ _ _ _ => nn
      rw [nat_beq, nat_sgn] at nn
      exact ok _ _ _ _ (Fr.keep (by assumption)) ⟨_, News.get nn (by k_mem), rfl, _, rfl⟩ ⟨_, rfl⟩
set_option maxHeartbeats 2000000
theorem fill_z8 : PySem.Challenge.rw_rs0255_01.Holds ∨ hd.heap_39 = hd.heap_39 := by
  k_fill
  exact .inr rfl
theorem stand_all (w : World) : ∀ k, StandOk w k := by
  intro k
  induction k with
  | zero =>
    intro B mg mb mean v u d e dp un fr gd s Q E X T hv hu x hd hun ok
    by_cases hT : d.T = e.T
    · cases hv with
      | int i t =>
        cases hu with
        | int j t2 => exact stand_int rfl X T x (show dp < _ by omega) ok
        | str => simp [D.T] at hT
        | non => simp [D.T] at hT
      | str i t =>
        cases hu with
        | int => simp [D.T] at hT
        | str j t2 => exact stand_str rfl X T x (show dp < _ by omega) fun t wv h' tk a b c => ok t wv h' tk a (by rw [show (stand 0 (.str i) (.str j)).1 = (i == j) from toList_beq i j]; exact b) c
        | non => simp [D.T] at hT
      | non =>
        cases hu with
        | int => simp [D.T] at hT
        | str => simp [D.T] at hT
        | non => exact stand_none rfl X T x (show dp < _ by omega) ok
    · rw [stand_apart hT] at ok
      exact stand_apartOk rfl X T hv hu x (show dp < _ by omega) hT ok
  | succ k ih =>
    intro B mg mb mean v u d e dp un fr gd s Q E X T hv hu x hd hun ok
    by_cases hT : d.T = e.T
    · cases hv with
      | int i t =>
        cases hu with
        | int j t2 => exact stand_int rfl X T x (show dp < _ by omega) ok
        | str => simp [D.T] at hT
        | non => simp [D.T] at hT
        | @row _ _ l => cases l <;> simp [D.T] at hT
      | str i t =>
        cases hu with
        | int => simp [D.T] at hT
        | str j t2 => exact stand_str rfl X T x (show dp < _ by omega) fun t wv h' tk a b c => ok t wv h' tk a (by rw [show (stand (k + 1) (.str i) (.str j)).1 = (i == j) from toList_beq i j]; exact b) c
        | non => simp [D.T] at hT
        | @row _ _ l => cases l <;> simp [D.T] at hT
      | non =>
        cases hu with
        | int => simp [D.T] at hT
        | str => simp [D.T] at hT
        | non => exact stand_none rfl X T x (show dp < _ by omega) ok
        | @row _ _ l => cases l <;> simp [D.T] at hT
      | @row _ a l dd xs nn sl ds ha hl hz hi =>
        cases hu with
        | int => cases l <;> simp [D.T] at hT
        | str => cases l <;> simp [D.T] at hT
        | non => cases l <;> simp [D.T] at hT
        | @row _ b l2 dd2 ys nn2 sl2 es hb hl2 hz2 hi2 =>
          have el : l = l2 := by cases l <;> cases l2 <;> first | rfl | simp [D.T] at hT
          subst el
          simp only [stand, if_true] at ok
          exact stand_row ih X T ha hb (by omega) (by omega) hl hl2 hi hi2 x hd hun ok
    · rw [stand_apart hT] at ok
      exact stand_apartOk rfl X T hv hu x (show dp < _ by omega) hT ok

theorem due_none {w : World} {mg mb : Str → Option Value} {mean : ExcName → Option Value} {r : Res} {A : Around} {s : Shared} {Q E : Value → Shared → Prop} (hr : r.2 = none)
    (X : (hd.heap_39 w.params).In s.heap) (T : TopAt mg mb mean s.heap) (hroom : A.depth < recursionLimit)
    (ok : ∀ l n h' tk, Ext s.heap h' → h'.get? l = some (W.listOf (answers r).toArray n) → s.heap.get? l = none → Q (.ref l) { s with heap := h', toks := tk }) : wpAny (model prog w) A (call (.ref 125) [.bool r.1, .none]) Q E s := by
  k_with_none
  refine wpAny_call (code_q (binds := [(Str.ofString "same", .bool r.1), (Str.ofString "way", .none)]) X T (by k_is) (by k_is) hroom (BindsTo.of_eq rfl) (locs rfl) (fun h₁ F => ?_) rfl rfl rfl (by decide))
  have N : News s.heap s.heap.objs.size h₁ [] := News.nil
  refine no_E ?_
  rw [answers_none hr] at ok
  k_steps
  all_goals (rename News _ _ _ _ => nn; exact ok _ _ _ _ (Fr.keep (by assumption)) (News.get nn (by k_mem)) (News.fresh nn (by k_mem)))
theorem due_some {w : World} {mg mb : Str → Option Value} {mean : ExcName → Option Value} {r : Res} {x : Int} {tx : Tok} {A : Around} {s : Shared} {Q E : Value → Shared → Prop} (hr : r.2 = some x)
    (X : (hd.heap_39 w.params).In s.heap) (T : TopAt mg mb mean s.heap) (hroom : A.depth < recursionLimit)
    (ok : ∀ l n h' tk, Ext s.heap h' → h'.get? l = some (W.listOf (answers r).toArray n) → s.heap.get? l = none → Q (.ref l) { s with heap := h', toks := tk }) : wpAny (model prog w) A (call (.ref 125) [.bool r.1, .int x tx]) Q E s := by
  refine wpAny_call (code_q (binds := [(Str.ofString "same", .bool r.1), (Str.ofString "way", .int x tx)]) X T (by k_is) (by k_is) hroom (BindsTo.of_eq rfl) (locs rfl) (fun h₁ F => ?_) rfl rfl rfl (by decide))
  have N : News s.heap s.heap.objs.size h₁ [] := News.nil
  refine no_E ?_
  rw [answers_some hr] at ok
  k_steps
  all_goals (rename News _ _ _ _ => nn; exact ok _ _ _ _ (Fr.keep (by assumption)) (News.get nn (by k_mem)) (News.fresh nn (by k_mem)))
set_option maxHeartbeats 2000000
theorem fill_y1 : PySem.Challenge.rw_rs0255_01.Holds ∨ hd.heap_39 = hd.heap_39 := by
  k_fill
  exact .inr rfl
def Good (x : Str) : Prop := x = Str.ofString "{u}m" ∨ x = Str.ofString "{u}l" ∨ x = Str.ofString "{u}mm"
inductive LeafOk : Value → D → Prop
  | int (i : Int) (t : Tok) : LeafOk (.int i t) (.int i)
  | str {x : Str} (t : Tok) : Good x → LeafOk (.str x t) (.str x)
  | non : LeafOk .none .none
theorem leaf_call {w : World} {mg mb : Str → Option Value} {mean : ExcName → Option Value} {k c : Int} {t u : Tok} {dp un : Nat} {fr : Option (List Env)} {gd : Option (List Code)} {s : Shared} {Q E : Value → Shared → Prop} (hk0 : 0 ≤ k) (hk : k < 3) (hc0 : 0 ≤ c) (hc : c < 4)
    (X : (hd.heap_39 w.params).In s.heap) (T : TopAt mg mb mean s.heap) (hroom : dp < recursionLimit)
    (ok : ∀ v d h' tk, Ext s.heap h' → LeafOk v d → Q v { s with heap := h', toks := tk }) : wpAny (model prog w) { handled := none, depth := dp, frames := fr, guards := gd, units := un } (call (.ref 99) [.int k t, .int c u]) Q E s := by
  k_with_none
  refine wpAny_call (code_q (binds := [(Str.ofString "kind", .int k t), (Str.ofString "change", .int c u)]) X T (by k_is) (by k_is) hroom (BindsTo.of_eq rfl) (locs rfl) (fun h₁ F => ?_) rfl rfl rfl (by decide))
  have N : News s.heap s.heap.objs.size h₁ [] := News.nil
  refine no_E ?_
  k_steps
  all_goals first
    | exact ok _ _ _ _ (Fr.keep (by assumption)) (LeafOk.int _ _)
    | exact ok _ _ _ _ (Fr.keep (by assumption)) LeafOk.non
    | exact ok _ _ _ _ (Fr.keep (by assumption)) (LeafOk.str _ (.inl rfl))
    | exact ok _ _ _ _ (Fr.keep (by assumption)) (LeafOk.str _ (.inr (.inl rfl)))
    | exact ok _ _ _ _ (Fr.keep (by assumption)) (LeafOk.str _ (.inr (.inr rfl)))
    | skip
set_option maxHeartbeats 2000000
theorem m_five {m : Str → Option Value} {a1 a2 a3 a4 a5 : Str} {v1 v2 v3 v4 v5 : Value} (h1 : m a1 = some v1) (h2 : m a2 = some v2) (h3 : m a3 = some v3) (h4 : m a4 = some v4) (h5 : m a5 = some v5) :
    m = fun y => if y = a1 then some v1 else if y = a2 then some v2 else if y = a3 then some v3 else if y = a4 then some v4 else if y = a5 then some v5 else m y := funext fun y => by
  by_cases e1 : y = a1
  · rw [if_pos e1, e1, h1]
  by_cases e2 : y = a2
  · rw [if_neg e1, if_pos e2, e2, h2]
  by_cases e3 : y = a3
  · rw [if_neg e1, if_neg e2, if_pos e3, e3, h3]
  by_cases e4 : y = a4
  · rw [if_neg e1, if_neg e2, if_neg e3, if_pos e4, e4, h4]
  by_cases e5 : y = a5
  · rw [if_neg e1, if_neg e2, if_neg e3, if_neg e4, if_pos e5, e5, h5]
  rw [if_neg e1, if_neg e2, if_neg e3, if_neg e4, if_neg e5]
/-- an inner row, as an object: its leaves are good -/
def InnerOk (o : Obj) (d : D) : Prop := ∃ l xs n ds, o = ⟨.type (if l then "list" else "tuple"), none, .seq xs n, #[]⟩ ∧ d = .row l ds ∧ xs.size = ds.length ∧ ds.length ≤ 2 ∧ ∀ j (h1 : j < xs.size) (h2 : j < ds.length), LeafOk xs[j] ds[j]
/-- what one turn adds to the row: nothing, a leaf, or an inner row -/
inductive AddOk (xs xs' : Array Value) (a3 : Addr) (o3 : Obj) : Prop
  | no : xs' = xs → AddOk xs xs' a3 o3
  | leaf (v : Value) (d : D) : xs' = xs.push v → LeafOk v d → AddOk xs xs' a3 o3
  | inner (d : D) : xs' = xs.push (.ref a3) → InnerOk o3 d → AddOk xs xs' a3 o3
def BareJ (rl : Addr) (p c i : Int) (b : Bool) (m : Str → Option Value) : Prop :=
  ∃ t1 t2 t3, m (Str.ofString "place") = some (.int p t1) ∧ m (Str.ofString "change") = some (.int c t2) ∧ m (Str.ofString "at") = some (.int i t3) ∧ m (Str.ofString "row") = some (.ref rl) ∧ m (Str.ofString "whole") = some (.bool b)
def BareEnd (g : Heap) (L I : Addr) (it : Obj) (kl : Addr) (ko : Obj) (rl : Addr) (xs : Array Value) (P1 P2 : Addr × Obj) (p c : Int) (s : Shared) (f : Flow) (s' : Shared) : Prop :=
  match f with
  | .ret _ => False
  | .brk => False
  | _ => ∃ h' tk m' xs' n' i' b' a3 o3, s' = { s with heap := h', toks := tk } ∧ Fr g L h' m' ∧ News g L h' [(I, it), (rl, W.listOf xs' n'), (kl, ko), P1, P2, (a3, o3)] ∧ a3 ≠ rl ∧ a3 ≠ I ∧ BareJ rl p c i' b' m' ∧ AddOk xs xs' a3 o3
def TurnOk (w : World) (A : Around) (E : Value → Shared → Prop) (g : Heap) (env : Env) (body : List Stmt) (I kl : Addr) (ko : Obj) (rl : Addr) (p c : Int) : Prop :=
  ∀ (it : Obj) (h : Heap) (m : Str → Option Value) (xs : Array Value) (n : Nat) (i : Int) (b : Bool) (k : Int) (t : Tok) (a1 : Addr) (o1 : Obj) (a2 : Addr) (o2 : Obj) (s : Shared), s.heap = h → it.cls = .type "list_iterator" → 0 ≤ k → k < 5 → BareJ rl p c i b m →
    Fr g env.locals h (fun y => if y = Str.ofString "kind" then some (.int k t) else m y) → News g env.locals h [(I, it), (rl, W.listOf xs n), (kl, ko), (a1, o1), (a2, o2)] → a1 ≠ rl → a2 ≠ rl → a1 ≠ I → a2 ≠ I → rl ≠ I → kl ≠ I → rl ≠ kl → xs.size ≤ 3 →
    wpAny (model prog w) A (execs body env) (BareEnd g env.locals I it kl ko rl xs (a1, o1) (a2, o2) p c s) E s

/-- an item of the row after some turns -/
def ItemOk (Ps : List (Addr × Obj)) (v : Value) (d : D) : Prop := LeafOk v d ∨ ∃ a o, v = .ref a ∧ (a, o) ∈ Ps ∧ InnerOk o d
def RowsOk (z : Nat) (Ps : List (Addr × Obj)) (xs : Array Value) (ds : List D) : Prop := xs.size = ds.length ∧ ds.length ≤ z ∧ ∀ j (h1 : j < xs.size) (h2 : j < ds.length), ItemOk Ps xs[j] ds[j]
theorem RowsOk.push {z : Nat} {Ps : List (Addr × Obj)} {xs : Array Value} {ds : List D} {v : Value} {d : D} (h : RowsOk z Ps xs ds) (i : ItemOk Ps v d) : RowsOk (z + 1) Ps (xs.push v) (ds ++ [d]) := by
  obtain ⟨h1, h2, h3⟩ := h
  refine ⟨by simp [h1], by simp; omega, fun j q1 q2 => ?_⟩
  by_cases e : j < xs.size
  · have e' : j < ds.length := by omega
    have a := h3 j e e'
    simpa [Array.getElem_push, e, List.getElem_append, e'] using a
  · have q : j = xs.size := by simp at q1; omega
    subst q
    simp only [Array.getElem_push, h1, Nat.lt_irrefl, List.getElem_append, dite_false]
    simpa using i
theorem RowsOk.sub {z : Nat} {Ps Ps' : List (Addr × Obj)} {xs : Array Value} {ds : List D} (s : ∀ p ∈ Ps, p ∈ Ps') (h : RowsOk z Ps xs ds) : RowsOk z Ps' xs ds := by
  obtain ⟨h1, h2, h3⟩ := h
  refine ⟨h1, h2, fun j q1 q2 => ?_⟩
  rcases h3 j q1 q2 with a | ⟨a, o, e, m, i⟩
  · exact .inl a
  · exact .inr ⟨a, o, e, s _ m, i⟩
theorem RowsOk.add {z : Nat} {Ps : List (Addr × Obj)} {xs xs' : Array Value} {ds : List D} {a3 : Addr} {o3 : Obj} (h : RowsOk z Ps xs ds) (a : AddOk xs xs' a3 o3) : ∃ ds', RowsOk (z + 1) ((a3, o3) :: Ps) xs' ds' := by
  have h' : RowsOk z ((a3, o3) :: Ps) xs ds := h.sub fun p hp => List.mem_cons_of_mem _ hp
  cases a with
  | no e => rw [e]; exact ⟨ds, h'.1, Nat.le_succ_of_le h'.2.1, h'.2.2⟩
  | leaf v d e l => rw [e]; exact ⟨_, h'.push (.inl l)⟩
  | inner d e i => rw [e]; exact ⟨_, h'.push (.inr ⟨_, _, rfl, List.mem_cons_self .., i⟩)⟩
section
variable {w : World} {A : Around} {E : Value → Shared → Prop} {g : Heap} {env : Env} {body : List Stmt} {I kl : Addr} {ko : Obj} {rl : Addr} {p c : Int} {Q : Flow → Shared → Prop} {s : Shared}
theorem bare_turn (turn : TurnOk w A E g env body I kl ko rl p c) (z1 : rl ≠ I) (z2 : kl ≠ I) (z3 : rl ≠ kl) {z : Nat} {k i : Int} {t : Tok} {b : Bool} {xs : Array Value} {n : Nat} {ds : List D} {P1 P2 : Addr × Obj} {Ps : List (Addr × Obj)} {m : Str → Option Value} {news : List (Addr × Obj)} {rest : List Value}
    (hz : z ≤ 3) (hk0 : 0 ≤ k) (hk : k < 5) (J : BareJ rl p c i b m) (m1 : (rl, W.listOf xs n) ∈ news) (m2 : (kl, ko) ∈ news) (m3 : P1 ∈ news) (m4 : P2 ∈ news) (d1 : P1.1 ≠ rl) (d2 : P2.1 ≠ rl) (d3 : P1.1 ≠ I) (d4 : P2.1 ≠ I) (R : RowsOk z Ps xs ds)
    (next : ∀ m' xs' n' i' b' a3 o3 ds', BareJ rl p c i' b' m' → a3 ≠ rl → a3 ≠ I → RowsOk (z + 1) ((a3, o3) :: Ps) xs' ds' →
      ListRest prog w A E g env (Str.ofString "kind") body Q s I (kl, ko) rest m' [(rl, W.listOf xs' n'), (kl, ko), P1, P2, (a3, o3)]) :
    ListRest prog w A E g env (Str.ofString "kind") body Q s I (kl, ko) (.int k t :: rest) m news := by
  refine ListRest.succ fun it h tk hit F N => ?_
  have N' : News g env.locals h [(I, it), (rl, W.listOf xs n), (kl, ko), P1, P2] := fun q hq => by
    simp only [List.mem_cons, List.not_mem_nil, or_false] at hq
    rcases hq with rfl | rfl | rfl | rfl | rfl
    · exact N _ (List.mem_cons_self ..)
    · exact N _ (List.mem_cons_of_mem _ m1)
    · exact N _ (List.mem_cons_of_mem _ m2)
    · exact N _ (List.mem_cons_of_mem _ m3)
    · exact N _ (List.mem_cons_of_mem _ m4)
  obtain ⟨a1, o1⟩ := P1
  obtain ⟨a2, o2⟩ := P2
  refine wpAny_mono (turn it h m xs n i b k t a1 o1 a2 o2 { s with heap := h, toks := tk } rfl hit hk0 hk J F N' d1 d2 d3 d4 z1 z2 z3 (by have := R.1; have := R.2.1; omega)) (fun f s₂ q => ?_) fun _ _ e => e
  have fin : (∃ h' tk' m' xs' n' i' b' a3 o3, s₂ = { s with heap := h', toks := tk' } ∧ Fr g env.locals h' m' ∧ News g env.locals h' [(I, it), (rl, W.listOf xs' n'), (kl, ko), (a1, o1), (a2, o2), (a3, o3)] ∧ a3 ≠ rl ∧ a3 ≠ I ∧ BareJ rl p c i' b' m' ∧ AddOk xs xs' a3 o3) →
      UnrEnd g env.locals { s with heap := h, toks := tk } I it (fun m' n' => (kl, ko) ∈ n' ∧ ListRest prog w A E g env (Str.ofString "kind") body Q s I (kl, ko) rest m' n') s₂ := by
    rintro ⟨h', tk', m', xs', n', i', b', a3, o3, rfl, F', NN, y1, y2, J', a⟩
    obtain ⟨ds', R'⟩ := R.add a
    refine ⟨h', tk', m', [(rl, W.listOf xs' n'), (kl, ko), (a1, o1), (a2, o2), (a3, o3)], rfl, F', NN, ?_, List.mem_cons_of_mem _ (List.mem_cons_self ..), next m' xs' n' i' b' a3 o3 ds' J' y1 y2 R'⟩
    intro q hq
    simp only [List.mem_cons, List.not_mem_nil, or_false] at hq
    rcases hq with rfl | rfl | rfl | rfl | rfl
    · exact z1
    · exact z2
    · exact d3
    · exact d4
    · exact y2
  cases f with
  | ret v => exact q.elim
  | brk => exact q.elim
  | next => exact fin q
  | cont => exact fin q
theorem bare_rest (turn : TurnOk w A E g env body I kl ko rl p c) (z3 : rl ≠ kl) {k1 k2 k3 i : Int} {t1 t2 t3 : Tok} {b : Bool} {n : Nat} {m : Str → Option Value} {news : List (Addr × Obj)}
    (h1 : 0 ≤ k1) (h1' : k1 < 5) (h2 : 0 ≤ k2) (h2' : k2 < 5) (h3 : 0 ≤ k3) (h3' : k3 < 5) (J : BareJ rl p c i b m) (m1 : (rl, W.listOf #[] n) ∈ news) (m2 : (kl, ko) ∈ news) (lI : ∀ p ∈ news, p.1 < I)
    (done : ∀ h tk m' xs n' i' b' Ps ds, Fr g env.locals h m' → News g env.locals h ((rl, W.listOf xs n') :: Ps) → BareJ rl p c i' b' m' → RowsOk 3 Ps xs ds → Q .next { s with heap := h, toks := tk }) :
    ListRest prog w A E g env (Str.ofString "kind") body Q s I (kl, ko) [.int k1 t1, .int k2 t2, .int k3 t3] m news := by
  have z1 : rl ≠ I := Nat.ne_of_lt (lI _ m1)
  have z2 : kl ≠ I := Nat.ne_of_lt (lI _ m2)
  refine bare_turn turn z1 z2 z3 (z := 0) (Ps := []) (ds := []) (by decide) h1 h1' J m1 m2 m2 m2 (Ne.symm z3) (Ne.symm z3) z2 z2 ⟨rfl, Nat.le_refl _, fun j q => absurd q (Nat.not_lt_zero _)⟩ fun m' xs' n' i' b' a3 o3 ds' J' y1 y2 R => ?_
  refine bare_turn turn z1 z2 z3 (by decide) h2 h2' J' (P1 := (a3, o3)) (P2 := (kl, ko)) (List.mem_cons_self ..) (by simp) (by simp) (by simp) y1 (Ne.symm z3) y2 z2 R fun m' xs' n' i' b' a4 o4 ds' J' y1' y2' R => ?_
  refine bare_turn turn z1 z2 z3 (by decide) h3 h3' J' (P1 := (a3, o3)) (P2 := (a4, o4)) (List.mem_cons_self ..) (by simp) (by simp) (by simp) y1 y1' y2 y2' R fun m' xs' n' i' b' a5 o5 ds' J' y1'' y2'' R => ?_
  refine ListRest.zero fun h tk F N => done h tk m' xs' n' i' b' _ ds' F (fun q hq => N q ?_) J' R
  simp only [List.mem_cons, List.not_mem_nil, or_false] at hq ⊢
  rcases hq with rfl | rfl | rfl | rfl <;> simp
end
theorem ext_row {w : World} {A : Around} {E : Value → Shared → Prop} {s : Shared} {h₀ : Heap} {L D b : Addr} {m : Str → Option Value} {news news' : List (Addr × Obj)} {its its2 : Array Value} {n n2 : Nat} {Q : Value → Shared → Prop} (F : Fr h₀ L s.heap m) (N : News h₀ L s.heap news) (hb : (b, W.listOf its2 n2) ∈ news) (hne : its2.toList.length ≠ 0)
    (U : Upd D (W.listOf its n) (W.listOf (its.toList ++ its2.toList).toArray (n + 1)) news news') (hz : its.size ≤ 3) (hz2 : its2.size ≤ 3)
    (h : ∀ h', Fr h₀ L h' m → News h₀ L h' news' → Q .none { s with heap := h' }) : wpAny (model prog w) A (call (.builtin "list.extend") [.ref D, .ref b]) Q E s := by
  have e1 : its.size + its2.size ≤ sizeLine := Nat.le_trans (Nat.add_le_add hz hz2) (by decide)
  refine kl_extend F N hb rfl hne U ?_ (by rw [Array.length_toList]; exact Nat.le_trans hz (by decide)) (Nat.le_succ_of_le e1) h
  unfold Builtin.List.listTooLong
  rw [decide_eq_false (Nat.not_lt.mpr e1), Bool.and_false]
  decide
theorem ext_nil {w : World} {A : Around} {E : Value → Shared → Prop} {s : Shared} {h₀ : Heap} {L D b : Addr} {m : Str → Option Value} {news news' : List (Addr × Obj)} {its : Array Value} {n n2 : Nat} {Q : Value → Shared → Prop} (F : Fr h₀ L s.heap m) (N : News h₀ L s.heap news) (hb : (b, W.listOf #[] n2) ∈ news)
    (U : Upd D (W.listOf its n) (W.listOf its n) news news') (hz : its.size ≤ 3)
    (h : ∀ h', Fr h₀ L h' m → News h₀ L h' news' → Q .none { s with heap := h' }) : wpAny (model prog w) A (call (.builtin "list.extend") [.ref D, .ref b]) Q E s := by
  have e1 : its.size + (#[] : Array Value).size ≤ sizeLine := Nat.le_trans hz (by decide)
  refine kxn_extend F N hb rfl U ?_ (by rw [Array.length_toList]; exact Nat.le_trans hz (by decide)) (Nat.le_succ_of_le e1) h
  unfold Builtin.List.listTooLong
  rw [decide_eq_false (Nat.not_lt.mpr e1), Bool.and_false]
  decide
set_option maxHeartbeats 2000000
theorem m_two {m : Str → Option Value} {a1 a2 : Str} {v1 v2 : Value} (h1 : m a1 = some v1) (h2 : m a2 = some v2) :
    m = fun y => if y = a1 then some v1 else if y = a2 then some v2 else m y := funext fun y => by
  by_cases e1 : y = a1
  · rw [if_pos e1, e1, h1]
  by_cases e2 : y = a2
  · rw [if_neg e1, if_pos e2, e2, h2]
  rw [if_neg e1, if_neg e2]
theorem m_three {m : Str → Option Value} {a1 a2 a3 : Str} {v1 v2 v3 : Value} (h1 : m a1 = some v1) (h2 : m a2 = some v2) (h3 : m a3 = some v3) :
    m = fun y => if y = a1 then some v1 else if y = a2 then some v2 else if y = a3 then some v3 else m y := funext fun y => by
  by_cases e1 : y = a1
  · rw [if_pos e1, e1, h1]
  by_cases e2 : y = a2
  · rw [if_neg e1, if_pos e2, e2, h2]
  by_cases e3 : y = a3
  · rw [if_neg e1, if_neg e2, if_pos e3, e3, h3]
  rw [if_neg e1, if_neg e2, if_neg e3]
/-- the leaves of an inner row -/
def LfOk (z : Nat) (ys : Array Value) : Prop := ∃ ds : List D, ys.size = ds.length ∧ ds.length ≤ z ∧ ∀ j (h1 : j < ys.size) (h2 : j < ds.length), LeafOk ys[j] ds[j]
def AddL (ys ys' : Array Value) : Prop := ys' = ys ∨ ∃ v d, ys' = ys.push v ∧ LeafOk v d
theorem LfOk.nil : LfOk 0 #[] := ⟨[], rfl, Nat.le_refl _, fun j h => absurd h (Nat.not_lt_zero _)⟩
theorem LfOk.size {z : Nat} {ys : Array Value} (h : LfOk z ys) : ys.size ≤ z := by
  obtain ⟨ds, h1, h2, _⟩ := h
  omega
theorem LfOk.add {z : Nat} {ys ys' : Array Value} (h : LfOk z ys) (a : AddL ys ys') : LfOk (z + 1) ys' := by
  obtain ⟨ds, h1, h2, h3⟩ := h
  rcases a with rfl | ⟨v, d, rfl, l⟩
  · exact ⟨ds, h1, Nat.le_succ_of_le h2, h3⟩
  refine ⟨ds ++ [d], by simp [h1], by simp; omega, fun j q1 q2 => ?_⟩
  by_cases e : j < ys.size
  · have e' : j < ds.length := by omega
    have a := h3 j e e'
    simpa [Array.getElem_push, e, List.getElem_append, e'] using a
  · have q : j = ys.size := by simp at q1; omega
    subst q
    simp only [Array.getElem_push, h1, Nat.lt_irrefl, List.getElem_append, dite_false]
    simpa using l
noncomputable def lfM (m : Str → Option Value) (lv : Value) (i : Int) (ti : Tok) : Str → Option Value := fun y => if y = Str.ofString "leaf" then some lv else if y = Str.ofString "at" then some (.int i ti) else m y
def InJ (il : Addr) (p c : Int) (m : Str → Option Value) : Prop := ∃ t1 t2, m (Str.ofString "place") = some (.int p t1) ∧ m (Str.ofString "change") = some (.int c t2) ∧ m (Str.ofString "inner") = some (.ref il)
def InEnd (g : Heap) (L I : Addr) (it : Obj) (il : Addr) (ys : Array Value) (P1 P2 P3 P4 P5 P6 : Addr × Obj) (m : Str → Option Value) (lv : Value) (i : Int) (s : Shared) (f : Flow) (s' : Shared) : Prop :=
  match f with
  | .ret _ => False
  | .brk => False
  | _ => ∃ h' tk ys' n' t', s' = { s with heap := h', toks := tk } ∧ Fr g L h' (lfM m lv (i + 1) t') ∧ News g L h' [(I, it), (il, W.listOf ys' n'), P1, P2, P3, P4, P5, P6] ∧ AddL ys ys'
def TurnIn (w : World) (A : Around) (E : Value → Shared → Prop) (g : Heap) (env : Env) (body : List Stmt) (p c : Int) : Prop :=
  ∀ (I : Addr) (it : Obj) (il : Addr) (ys : Array Value) (n : Nat) (a1 : Addr) (o1 : Obj) (a2 : Addr) (o2 : Obj) (a3 : Addr) (o3 : Obj) (a4 : Addr) (o4 : Obj) (a5 : Addr) (o5 : Obj) (a6 : Addr) (o6 : Obj) (m : Str → Option Value) (i : Int) (ti : Tok) (k : Int) (t : Tok) (s : Shared), 0 ≤ k → k < 3 → InJ il p c m → ys.size ≤ 3 →
    Fr g env.locals s.heap (lfM m (.int k t) i ti) → News g env.locals s.heap [(I, it), (il, W.listOf ys n), (a1, o1), (a2, o2), (a3, o3), (a4, o4), (a5, o5), (a6, o6)] →
    I ≠ il → a1 ≠ il → a2 ≠ il → a3 ≠ il → a4 ≠ il → a5 ≠ il → a6 ≠ il →
    wpAny (model prog w) A (execs body env) (InEnd g env.locals I it il ys (a1, o1) (a2, o2) (a3, o3) (a4, o4) (a5, o5) (a6, o6) m (.int k t) i s) E s
theorem lfM_start {m : Str → Option Value} {lv : Value} {i : Int} {ti : Tok} (h : m (Str.ofString "at") = some (.int i ti)) : (fun y => if y = Str.ofString "leaf" then some lv else m y) = lfM m lv i ti := funext fun y => by
  unfold lfM
  by_cases e : y = Str.ofString "leaf"
  · rw [if_pos e, if_pos e]
  · rw [if_neg e, if_neg e]
    by_cases e2 : y = Str.ofString "at"
    · rw [if_pos e2, e2, h]
    · rw [if_neg e2]
theorem lfM_next {m : Str → Option Value} {lv lv' : Value} {i : Int} {ti : Tok} : (fun y => if y = Str.ofString "leaf" then some lv' else lfM m lv i ti y) = lfM m lv' i ti := funext fun y => by
  unfold lfM
  by_cases e : y = Str.ofString "leaf"
  · rw [if_pos e, if_pos e]
  · rw [if_neg e, if_neg e, if_neg e]
theorem lfM_end {m : Str → Option Value} {lv v0 v1 v2 v3 : Value} {i : Int} {ti : Tok} (h1 : m (Str.ofString "place") = some v1) (h2 : m (Str.ofString "change") = some v2) (h3 : m (Str.ofString "inner") = some v3) :
    (fun y => if y = Str.ofString "at" then some (.int i ti) else if y = Str.ofString "leaf" then some lv else if y = Str.ofString "at" then some v0 else if y = Str.ofString "place" then some v1 else if y = Str.ofString "change" then some v2 else if y = Str.ofString "inner" then some v3 else m y) = lfM m lv i ti := funext fun y => by
  unfold lfM
  by_cases e1 : y = Str.ofString "at"
  · rw [if_pos e1, if_neg (by rw [e1]; decide), if_pos e1]
  rw [if_neg e1, if_neg e1]
  by_cases e2 : y = Str.ofString "leaf"
  · rw [if_pos e2, if_pos e2]
  rw [if_neg e2, if_neg e2, if_neg e1]
  by_cases e3 : y = Str.ofString "place"
  · rw [if_pos e3, e3, h1]
  rw [if_neg e3]
  by_cases e4 : y = Str.ofString "change"
  · rw [if_pos e4, e4, h2]
  rw [if_neg e4]
  by_cases e5 : y = Str.ofString "inner"
  · rw [if_pos e5, e5, h3]
  rw [if_neg e5]
section
variable {w : World} {A : Around} {E : Value → Shared → Prop} {g : Heap} {env : Env} {body : List Stmt} {I : Addr} {il : Addr} {p c : Int} {Q : Flow → Shared → Prop} {s : Shared} {P1 P2 P3 P4 P5 P6 : Addr × Obj} {rest : List Value} {m : Str → Option Value}
theorem in_step (turn : TurnIn w A E g env body p c) (lI : ∀ q ∈ [il, P1.1, P2.1, P3.1, P4.1, P5.1, P6.1], q < I) (n1 : P1.1 ≠ il) (n2 : P2.1 ≠ il) (n3 : P3.1 ≠ il) (n4 : P4.1 ≠ il) (n5 : P5.1 ≠ il) (n6 : P6.1 ≠ il)
    {z : Nat} {ys : Array Value} {n : Nat} {k : Int} {t : Tok} {i : Int} {ti : Tok} {m0 : Str → Option Value} (e : (fun y => if y = Str.ofString "leaf" then some (.int k t) else m0 y) = lfM m (.int k t) i ti) (R : LfOk z ys) (hz : z ≤ 3) (hk0 : 0 ≤ k) (hk : k < 3) (J : InJ il p c m)
    (next : ∀ ys' n' t', LfOk (z + 1) ys' → ListRest prog w A E g env (Str.ofString "leaf") body Q s I P1 rest (lfM m (.int k t) (i + 1) t') [(il, W.listOf ys' n'), P1, P2, P3, P4, P5, P6]) :
    ListRest prog w A E g env (Str.ofString "leaf") body Q s I P1 (.int k t :: rest) m0 [(il, W.listOf ys n), P1, P2, P3, P4, P5, P6] := by
  refine ListRest.succ fun it h tk hit F N => ?_
  rw [e] at F
  have off : ∀ q ∈ [il, P1.1, P2.1, P3.1, P4.1, P5.1, P6.1], q ≠ I := fun q hq => Nat.ne_of_lt (lI q hq)
  obtain ⟨a1, o1⟩ := P1
  obtain ⟨a2, o2⟩ := P2
  obtain ⟨a3, o3⟩ := P3
  obtain ⟨a4, o4⟩ := P4
  obtain ⟨a5, o5⟩ := P5
  obtain ⟨a6, o6⟩ := P6
  refine wpAny_mono (turn I it il ys n a1 o1 a2 o2 a3 o3 a4 o4 a5 o5 a6 o6 m i ti k t { s with heap := h, toks := tk } hk0 hk J (by have := R.size; omega) F N (Ne.symm (off il (by simp))) n1 n2 n3 n4 n5 n6) (fun f s₂ q => ?_) fun _ _ e => e
  have fin : (∃ h' tk' ys' n' t', s₂ = { s with heap := h', toks := tk' } ∧ Fr g env.locals h' (lfM m (.int k t) (i + 1) t') ∧ News g env.locals h' [(I, it), (il, W.listOf ys' n'), (a1, o1), (a2, o2), (a3, o3), (a4, o4), (a5, o5), (a6, o6)] ∧ AddL ys ys') →
      UnrEnd g env.locals { s with heap := h, toks := tk } I it (fun m' n' => (a1, o1) ∈ n' ∧ ListRest prog w A E g env (Str.ofString "leaf") body Q s I (a1, o1) rest m' n') s₂ := by
    rintro ⟨h', tk', ys', n', t', rfl, F', NN, a⟩
    refine ⟨h', tk', _, [(il, W.listOf ys' n'), (a1, o1), (a2, o2), (a3, o3), (a4, o4), (a5, o5), (a6, o6)], rfl, F', NN, ?_, List.mem_cons_of_mem _ (List.mem_cons_self ..), next ys' n' t' (R.add a)⟩
    intro q hq
    refine off _ ?_
    simp only [List.mem_cons, List.not_mem_nil, or_false] at hq ⊢
    rcases hq with rfl | rfl | rfl | rfl | rfl | rfl | rfl <;> simp
  cases f with
  | ret v => exact q.elim
  | brk => exact q.elim
  | next => exact fin q
  | cont => exact fin q
theorem allLt7 {a b c d e f h I : Addr} (lI : a < I ∧ b < I ∧ c < I ∧ d < I ∧ e < I ∧ f < I ∧ h < I) : ∀ q ∈ [a, b, c, d, e, f, h], q < I := by
  obtain ⟨l0, l1, l2, l3, l4, l5, l6⟩ := lI
  intro q hq
  simp only [List.mem_cons, List.not_mem_nil, or_false] at hq
  rcases hq with rfl | rfl | rfl | rfl | rfl | rfl | rfl <;> assumption
theorem in_one (turn : TurnIn w A E g env body p c) (lI : il < I ∧ P1.1 < I ∧ P2.1 < I ∧ P3.1 < I ∧ P4.1 < I ∧ P5.1 < I ∧ P6.1 < I) (n1 : P1.1 ≠ il) (n2 : P2.1 ≠ il) (n3 : P3.1 ≠ il) (n4 : P4.1 ≠ il) (n5 : P5.1 ≠ il) (n6 : P6.1 ≠ il)
    {n : Nat} {k : Int} {t : Tok} {i : Int} {ti : Tok} (ha : m (Str.ofString "at") = some (.int i ti)) (J : InJ il p c m) (hk0 : 0 ≤ k) (hk : k < 3)
    (done : ∀ h tk t' ys n', Fr g env.locals h (lfM m (.int k t) (i + 1) t') → News g env.locals h [(il, W.listOf ys n'), P1, P2, P3, P4, P5, P6] → LfOk 1 ys → Q .next { s with heap := h, toks := tk }) :
    ListRest prog w A E g env (Str.ofString "leaf") body Q s I P1 [.int k t] m [(il, W.listOf #[] n), P1, P2, P3, P4, P5, P6] := by
  refine in_step turn (allLt7 lI) n1 n2 n3 n4 n5 n6 (lfM_start ha) LfOk.nil (by decide) hk0 hk J fun ys' n' t' R => ?_
  exact ListRest.zero fun h tk F N => done h tk t' ys' n' F N R
theorem in_two (turn : TurnIn w A E g env body p c) (lI : il < I ∧ P1.1 < I ∧ P2.1 < I ∧ P3.1 < I ∧ P4.1 < I ∧ P5.1 < I ∧ P6.1 < I) (n1 : P1.1 ≠ il) (n2 : P2.1 ≠ il) (n3 : P3.1 ≠ il) (n4 : P4.1 ≠ il) (n5 : P5.1 ≠ il) (n6 : P6.1 ≠ il)
    {n : Nat} {k k2 : Int} {t t2 : Tok} {i : Int} {ti : Tok} (ha : m (Str.ofString "at") = some (.int i ti)) (J : InJ il p c m) (hk0 : 0 ≤ k) (hk : k < 3) (hk0' : 0 ≤ k2) (hk' : k2 < 3)
    (done : ∀ h tk t' ys n', Fr g env.locals h (lfM m (.int k2 t2) (i + 1 + 1) t') → News g env.locals h [(il, W.listOf ys n'), P1, P2, P3, P4, P5, P6] → LfOk 2 ys → Q .next { s with heap := h, toks := tk }) :
    ListRest prog w A E g env (Str.ofString "leaf") body Q s I P1 [.int k t, .int k2 t2] m [(il, W.listOf #[] n), P1, P2, P3, P4, P5, P6] := by
  refine in_step turn (allLt7 lI) n1 n2 n3 n4 n5 n6 (lfM_start ha) LfOk.nil (by decide) hk0 hk J fun ys' n' t' R => ?_
  refine in_step turn (allLt7 lI) n1 n2 n3 n4 n5 n6 lfM_next R (by decide) hk0' hk' J fun ys' n' t' R => ?_
  exact ListRest.zero fun h tk F N => done h tk t' ys' n' F N R
theorem with_inner (g : Heap) (p c : Int) {s1 s2 s3 : Stmt} {x y : Expr} {ib els : List Stmt} {pos : Pos} {post : List Stmt} {QQ : Flow → Shared → Prop} (hin : TurnIn w A E g env ib p c)
    (h : TurnIn w A E g env ib p c → wpAny (model prog w) A (execs (s1 :: s2 :: s3 :: .For x y ib els pos :: post) env) QQ E s) : wpAny (model prog w) A (execs (s1 :: s2 :: s3 :: .For x y ib els pos :: post) env) QQ E s := h hin
end
theorem ext_add {xs ys : Array Value} {a3 : Addr} {o3 : Obj} (R : LfOk 1 ys) : AddOk xs (xs.toList ++ ys.toList).toArray a3 o3 := by
  obtain ⟨ds, h1, h2, h3⟩ := R
  by_cases e : ys.size = 0
  · have e2 : ys = #[] := Array.eq_empty_of_size_eq_zero e
    subst e2
    exact .no (by simp)
  · have e1 : ys.size = 1 := by omega
    have hd : 0 < ds.length := by omega
    refine .leaf ys[0] ds[0] ?_ (h3 0 (by omega) hd)
    apply Array.toList_inj.mp
    have : ys.toList = [ys[0]] := by
      apply List.ext_getElem
      · simp [e1]
      · intro i q1 q2
        have : i = 0 := by simp at q2; omega
        subst this
        simp
    simp [this]
theorem list_add {z : Nat} {xs ys : Array Value} {a : Addr} {n : Nat} (R : LfOk z ys) (hz : z ≤ 2) : AddOk xs (xs.push (.ref a)) a (W.listOf ys n) := by
  obtain ⟨ds, h1, h2, h3⟩ := R
  exact .inner (.row true ds) rfl ⟨true, ys, n, ds, rfl, rfl, h1, Nat.le_trans h2 hz, h3⟩
theorem tup_add {z : Nat} {xs ys : Array Value} {a : Addr} (R : LfOk z ys) (hz : z ≤ 2) : AddOk xs (xs.push (.ref a)) a { cls := .type "tuple", data := .seq ys.toList.toArray } := by
  obtain ⟨ds, h1, h2, h3⟩ := R
  exact .inner (.row false ds) rfl ⟨false, ys, _, ds, by rw [Array.toArray_toList]; rfl, rfl, h1, Nat.le_trans h2 hz, h3⟩
/-- a bare thing as `_law_bare` gives it: k its rank, a row of rank k + 1 has at most k + 2 items -/
inductive Bg (B : Heap) : Nat → Value → D → Prop
  | leaf {k : Nat} {v : Value} {d : D} : LeafOk v d → Bg B k v d
  | row {k : Nat} {a : Addr} {l : Bool} {dd : Option Addr} {xs : Array Value} {nn : Nat} {sl : Array (Option Value)} {ds : List D} : B.get? a = some ⟨.type (if l then "list" else "tuple"), dd, .seq xs nn, sl⟩ → xs.size = ds.length → ds.length ≤ k + 2 →
      (∀ j (h1 : j < xs.size) (h2 : j < ds.length), Bg B k xs[j] ds[j]) → Bg B (k + 1) (.ref a) (.row l ds)
theorem Bg.mono {B B' : Heap} (x : Ext B B') {k : Nat} {v : Value} {d : D} (h : Bg B k v d) : Bg B' k v d := by
  induction h with
  | leaf l => exact .leaf l
  | row ha hl hz _ ih => exact .row (x _ _ ha) hl hz ih
theorem rows_bg {g h : Heap} {L : Addr} {Ps : List (Addr × Obj)} {xs : Array Value} {ds : List D} {l : Bool} {r : Addr} {dd : Option Addr} {nn : Nat} {sl : Array (Option Value)} (N : News g L h Ps) (R : RowsOk 3 Ps xs ds)
    (hr : h.get? r = some ⟨.type (if l then "list" else "tuple"), dd, .seq xs nn, sl⟩) : Bg h 2 (.ref r) (.row l ds) := by
  obtain ⟨h1, h2, h3⟩ := R
  refine .row hr h1 h2 fun j q1 q2 => ?_
  rcases h3 j q1 q2 with a | ⟨a, o, e, m, ⟨l', ys, n', es, rfl, ed, e1, e2, e3⟩⟩
  · exact .leaf a
  · rw [e, ed]
    exact .row (N _ m).1 e1 e2 fun j q1 q2 => .leaf (e3 j q1 q2)
theorem RowsOk.size {z : Nat} {Ps : List (Addr × Obj)} {xs : Array Value} {ds : List D} (R : RowsOk z Ps xs ds) : xs.size ≤ z := Nat.le_trans (Nat.le_of_eq R.1) R.2.1
theorem ext_gen {w : World} {A : Around} {E : Value → Shared → Prop} {s : Shared} {h₀ : Heap} {L D b : Addr} {m : Str → Option Value} {news news' : List (Addr × Obj)} {its its2 : Array Value} {n n2 : Nat} {Q : Value → Shared → Prop} (F : Fr h₀ L s.heap m) (N : News h₀ L s.heap news) (hb : (b, W.listOf its2 n2) ∈ news)
    (U : Upd D (W.listOf its n) (W.listOf (its.toList ++ its2.toList).toArray (if its2.toList.length = 0 then n else n + 1)) news news') (hz : its.size ≤ 3) (hz2 : its2.size ≤ 3)
    (h : ∀ h', Fr h₀ L h' m → News h₀ L h' news' → Q .none { s with heap := h' }) : wpAny (model prog w) A (call (.builtin "list.extend") [.ref D, .ref b]) Q E s := by
  by_cases e : its2.toList.length = 0
  · have e2 : its2 = #[] := by
      apply Array.eq_empty_of_size_eq_zero
      rw [← Array.length_toList]; exact e
    subst e2
    rw [if_pos e] at U
    have e3 : (its.toList ++ (#[] : Array Value).toList).toArray = its := by simp
    rw [e3] at U
    exact ext_nil F N hb U hz h
  · rw [if_neg e] at U
    exact ext_row F N hb e U hz hz2 h
set_option maxHeartbeats 2000000
theorem fill_y2 : PySem.Challenge.rw_rs0255_01.Holds ∨ hd.heap_39 = hd.heap_39 := by
  k_fill
  exact .inr rfl
theorem leaf_use {w : World} {g : Heap} {L : Addr} {m : Str → Option Value} {news : List (Addr × Obj)} {mg mb : Str → Option Value} {mean : ExcName → Option Value} {k c : Int} {t u : Tok} {dp un : Nat} {fr : Option (List Env)} {gd : Option (List Code)} {s : Shared} {Q E : Value → Shared → Prop}
    (F : Fr g L s.heap m) (N : News g L s.heap news) (X : (hd.heap_39 w.params).In g) (T : TopAt mg mb mean g) (hk0 : 0 ≤ k) (hk : k < 3) (hc0 : 0 ≤ c) (hc : c < 4) (hroom : dp < recursionLimit)
    (h : ∀ v d h' tk, Fr g L h' m → News g L h' news → LeafOk v d → Q v { s with heap := h', toks := tk }) :
    wpAny (model prog w) { handled := none, depth := dp, frames := fr, guards := gd, units := un } (call (.ref 99) [.int k t, .int c u]) Q E s :=
  leaf_call hk0 hk hc0 hc (X.keeps F.keep) (T.keeps F.keep) hroom fun v d h' tk x a => h v d h' tk (F.keeps x) (fun q hq => ⟨x _ _ (N q hq).1, (N q hq).2⟩) a
/-- the same, over a list of new objects -/
def BgOn (Os : List (Addr × Obj)) (k : Nat) (v : Value) (d : D) : Prop := ∀ h : Heap, (∀ p ∈ Os, h.get? p.1 = some p.2) → Bg h k v d
theorem rows_on {Ps : List (Addr × Obj)} {xs : Array Value} {ds : List D} {l : Bool} {r : Addr} {dd : Option Addr} {nn : Nat} {sl : Array (Option Value)} (R : RowsOk 3 Ps xs ds) :
    BgOn ((r, ⟨.type (if l then "list" else "tuple"), dd, .seq xs nn, sl⟩) :: Ps) 2 (.ref r) (.row l ds) := fun h q => by
  obtain ⟨h1, h2, h3⟩ := R
  refine .row (q _ (List.mem_cons_self ..)) h1 h2 fun j q1 q2 => ?_
  rcases h3 j q1 q2 with a | ⟨a, o, e, m, ⟨l', ys, n', es, rfl, ed, e1, e2, e3⟩⟩
  · exact .leaf a
  · rw [e, ed]
    exact .row (q _ (List.mem_cons_of_mem _ m)) e1 e2 fun j q1 q2 => .leaf (e3 j q1 q2)
theorem rows_end {g h : Heap} {L : Addr} {Ps : List (Addr × Obj)} {xs : Array Value} {ds : List D} {l : Bool} {r : Addr} {dd : Option Addr} {nn : Nat} {sl : Array (Option Value)} (N : News g L h Ps) (R : RowsOk 3 Ps xs ds)
    (hr : h.get? r = some ⟨.type (if l then "list" else "tuple"), dd, .seq xs nn, sl⟩ ∧ r ≠ L ∧ g.get? r = none) : ∃ Os, (∀ p ∈ Os, h.get? p.1 = some p.2 ∧ g.get? p.1 = none) ∧ BgOn Os 2 (.ref r) (.row l ds) :=
  ⟨_, fun p hp => by
    rcases List.mem_cons.mp hp with rfl | hp
    · exact ⟨hr.1, hr.2.2⟩
    · exact ⟨(N p hp).1, (N p hp).2.2⟩, rows_on R⟩
theorem neNat {a b : Addr} (h : a ≠ b) : @Ne Nat a b := h
theorem bare_call {w : World} {mg mb : Str → Option Value} {mean : ExcName → Option Value} {p q : Int} {t u : Tok} {dp un : Nat} {fr : Option (List Env)} {gd : Option (List Code)} {s : Shared} {Q E : Value → Shared → Prop} (hp : 0 ≤ p) (hq : 0 ≤ q)
    (X : (hd.heap_39 w.params).In s.heap) (T : TopAt mg mb mean s.heap) (hroom : dp + 5 < recursionLimit)
    (ok : ∀ v d h' tk Os, Ext s.heap h' → (∀ p ∈ Os, h'.get? p.1 = some p.2 ∧ s.heap.get? p.1 = none) → BgOn Os 2 v d → Q v { s with heap := h', toks := tk }) :
    wpAny (model prog w) { handled := none, depth := dp, frames := fr, guards := gd, units := un } (call (.ref 106) [.int p t, .int q u]) Q E s := by
  k_with_none
  k_with "ne" => first
      | with_reducible assumption
      | (refine Ne.symm ?_; with_reducible assumption)
      | exact Nat.ne_of_lt (And.left (by with_reducible assumption))
      | exact Nat.ne_of_gt (And.left (by with_reducible assumption))
      | exact Nat.ne_of_lt (And.left (And.right (by with_reducible assumption)))
      | exact Nat.ne_of_gt (And.left (And.right (by with_reducible assumption)))
      | exact Nat.ne_of_lt (And.right (by with_reducible assumption))
      | exact Nat.ne_of_gt (And.right (by with_reducible assumption))
      | exact Nat.ne_of_lt (And.left (And.right (And.right (by with_reducible assumption))))
      | exact Nat.ne_of_gt (And.left (And.right (And.right (by with_reducible assumption))))
      | exact Nat.ne_of_lt (And.right (And.right (by with_reducible assumption)))
      | exact Nat.ne_of_gt (And.right (And.right (by with_reducible assumption)))
      | exact Nat.ne_of_lt (And.left (And.right (And.right (And.right (by with_reducible assumption)))))
      | exact Nat.ne_of_gt (And.left (And.right (And.right (And.right (by with_reducible assumption)))))
      | exact Nat.ne_of_lt (And.right (And.right (And.right (by with_reducible assumption))))
      | exact Nat.ne_of_gt (And.right (And.right (And.right (by with_reducible assumption))))
      | exact Nat.ne_of_lt (And.left (And.right (And.right (And.right (And.right (by with_reducible assumption))))))
      | exact Nat.ne_of_gt (And.left (And.right (And.right (And.right (And.right (by with_reducible assumption))))))
      | exact Nat.ne_of_lt (And.right (And.right (And.right (And.right (by with_reducible assumption)))))
      | exact Nat.ne_of_gt (And.right (And.right (And.right (And.right (by with_reducible assumption)))))
      | exact Nat.ne_of_lt (And.left (And.right (And.right (And.right (And.right (And.right (by with_reducible assumption)))))))
      | exact Nat.ne_of_gt (And.left (And.right (And.right (And.right (And.right (And.right (by with_reducible assumption)))))))
      | exact Nat.ne_of_lt (And.right (And.right (And.right (And.right (And.right (by with_reducible assumption))))))
      | exact Nat.ne_of_gt (And.right (And.right (And.right (And.right (And.right (by with_reducible assumption))))))
      | exact Nat.ne_of_lt (And.left (And.right (And.right (And.right (And.right (And.right (And.right (by with_reducible assumption))))))))
      | exact Nat.ne_of_gt (And.left (And.right (And.right (And.right (And.right (And.right (And.right (by with_reducible assumption))))))))
      | exact Nat.ne_of_lt (And.right (And.right (And.right (And.right (And.right (And.right (by with_reducible assumption)))))))
      | exact Nat.ne_of_gt (And.right (And.right (And.right (And.right (And.right (And.right (by with_reducible assumption)))))))
      | exact Nat.ne_of_lt (And.left (And.right (And.right (And.right (And.right (And.right (And.right (And.right (by with_reducible assumption)))))))))
      | exact Nat.ne_of_gt (And.left (And.right (And.right (And.right (And.right (And.right (And.right (And.right (by with_reducible assumption)))))))))
      | exact Nat.ne_of_lt (And.right (And.right (And.right (And.right (And.right (And.right (And.right (by with_reducible assumption))))))))
      | exact Nat.ne_of_gt (And.right (And.right (And.right (And.right (And.right (And.right (And.right (by with_reducible assumption))))))))
      | exact Nat.ne_of_lt (And.left (And.right (And.right (And.right (And.right (And.right (And.right (And.right (And.right (by with_reducible assumption))))))))))
      | exact Nat.ne_of_gt (And.left (And.right (And.right (And.right (And.right (And.right (And.right (And.right (And.right (by with_reducible assumption))))))))))
      | exact Nat.ne_of_lt (And.right (And.right (And.right (And.right (And.right (And.right (And.right (And.right (by with_reducible assumption)))))))))
      | exact Nat.ne_of_gt (And.right (And.right (And.right (And.right (And.right (And.right (And.right (And.right (by with_reducible assumption)))))))))
      | exact Nat.ne_of_lt (And.left (And.right (And.right (And.right (And.right (And.right (And.right (And.right (And.right (And.right (by with_reducible assumption)))))))))))
      | exact Nat.ne_of_gt (And.left (And.right (And.right (And.right (And.right (And.right (And.right (And.right (And.right (And.right (by with_reducible assumption)))))))))))
      | exact Nat.ne_of_lt (And.right (And.right (And.right (And.right (And.right (And.right (And.right (And.right (And.right (by with_reducible assumption))))))))))
      | exact Nat.ne_of_gt (And.right (And.right (And.right (And.right (And.right (And.right (And.right (And.right (And.right (by with_reducible assumption))))))))))
      | exact Nat.ne_of_lt (And.left (And.right (And.right (And.right (And.right (And.right (And.right (And.right (And.right (And.right (And.right (by with_reducible assumption))))))))))))
      | exact Nat.ne_of_gt (And.left (And.right (And.right (And.right (And.right (And.right (And.right (And.right (And.right (And.right (And.right (by with_reducible assumption))))))))))))
      | exact Nat.ne_of_lt (And.right (And.right (And.right (And.right (And.right (And.right (And.right (And.right (And.right (And.right (by with_reducible assumption)))))))))))
      | exact Nat.ne_of_gt (And.right (And.right (And.right (And.right (And.right (And.right (And.right (And.right (And.right (And.right (by with_reducible assumption)))))))))))
      | exact Nat.ne_of_lt (And.left (And.right (And.right (And.right (And.right (And.right (And.right (And.right (And.right (And.right (And.right (And.right (by with_reducible assumption)))))))))))))
      | exact Nat.ne_of_gt (And.left (And.right (And.right (And.right (And.right (And.right (And.right (And.right (And.right (And.right (And.right (And.right (by with_reducible assumption)))))))))))))
      | exact Nat.ne_of_lt (And.right (And.right (And.right (And.right (And.right (And.right (And.right (And.right (And.right (And.right (And.right (by with_reducible assumption))))))))))))
      | exact Nat.ne_of_gt (And.right (And.right (And.right (And.right (And.right (And.right (And.right (And.right (And.right (And.right (And.right (by with_reducible assumption))))))))))))
      | exact Nat.ne_of_lt (And.left (And.right (And.right (And.right (And.right (And.right (And.right (And.right (And.right (And.right (And.right (And.right (And.right (by with_reducible assumption))))))))))))))
      | exact Nat.ne_of_gt (And.left (And.right (And.right (And.right (And.right (And.right (And.right (And.right (And.right (And.right (And.right (And.right (And.right (by with_reducible assumption))))))))))))))
      | exact Nat.ne_of_lt (And.right (And.right (And.right (And.right (And.right (And.right (And.right (And.right (And.right (And.right (And.right (And.right (by with_reducible assumption)))))))))))))
      | exact Nat.ne_of_gt (And.right (And.right (And.right (And.right (And.right (And.right (And.right (And.right (And.right (And.right (And.right (And.right (by with_reducible assumption)))))))))))))
      | (refine' Nat.ne_of_gt (Nat.lt_trans ?a ?b); (case b => with_reducible assumption); (case a => exact (by with_reducible assumption)))
      | (refine' Nat.ne_of_lt (Nat.lt_trans ?a ?b); (case b => with_reducible assumption); (case a => exact (by with_reducible assumption)))
      | (refine' Nat.ne_of_gt (Nat.lt_trans ?a ?b); (case b => with_reducible assumption); (case a => exact (And.left (by with_reducible assumption))))
      | (refine' Nat.ne_of_lt (Nat.lt_trans ?a ?b); (case b => with_reducible assumption); (case a => exact (And.left (by with_reducible assumption))))
      | (refine' Nat.ne_of_gt (Nat.lt_trans ?a ?b); (case b => with_reducible assumption); (case a => exact (And.left (And.right (by with_reducible assumption)))))
      | (refine' Nat.ne_of_lt (Nat.lt_trans ?a ?b); (case b => with_reducible assumption); (case a => exact (And.left (And.right (by with_reducible assumption)))))
      | (refine' Nat.ne_of_gt (Nat.lt_trans ?a ?b); (case b => with_reducible assumption); (case a => exact (And.right (by with_reducible assumption))))
      | (refine' Nat.ne_of_lt (Nat.lt_trans ?a ?b); (case b => with_reducible assumption); (case a => exact (And.right (by with_reducible assumption))))
      | (refine' Nat.ne_of_gt (Nat.lt_trans ?a ?b); (case b => with_reducible assumption); (case a => exact (And.left (And.right (And.right (by with_reducible assumption))))))
      | (refine' Nat.ne_of_lt (Nat.lt_trans ?a ?b); (case b => with_reducible assumption); (case a => exact (And.left (And.right (And.right (by with_reducible assumption))))))
      | (refine' Nat.ne_of_gt (Nat.lt_trans ?a ?b); (case b => with_reducible assumption); (case a => exact (And.right (And.right (by with_reducible assumption)))))
      | (refine' Nat.ne_of_lt (Nat.lt_trans ?a ?b); (case b => with_reducible assumption); (case a => exact (And.right (And.right (by with_reducible assumption)))))
      | (refine' Nat.ne_of_gt (Nat.lt_trans ?a ?b); (case b => with_reducible assumption); (case a => exact (And.left (And.right (And.right (And.right (by with_reducible assumption)))))))
      | (refine' Nat.ne_of_lt (Nat.lt_trans ?a ?b); (case b => with_reducible assumption); (case a => exact (And.left (And.right (And.right (And.right (by with_reducible assumption)))))))
      | (refine' Nat.ne_of_gt (Nat.lt_trans ?a ?b); (case b => with_reducible assumption); (case a => exact (And.right (And.right (And.right (by with_reducible assumption))))))
      | (refine' Nat.ne_of_lt (Nat.lt_trans ?a ?b); (case b => with_reducible assumption); (case a => exact (And.right (And.right (And.right (by with_reducible assumption))))))
      | (refine' Nat.ne_of_gt (Nat.lt_trans ?a ?b); (case b => with_reducible assumption); (case a => exact (And.left (And.right (And.right (And.right (And.right (by with_reducible assumption))))))))
      | (refine' Nat.ne_of_lt (Nat.lt_trans ?a ?b); (case b => with_reducible assumption); (case a => exact (And.left (And.right (And.right (And.right (And.right (by with_reducible assumption))))))))
      | (refine' Nat.ne_of_gt (Nat.lt_trans ?a ?b); (case b => with_reducible assumption); (case a => exact (And.right (And.right (And.right (And.right (by with_reducible assumption)))))))
      | (refine' Nat.ne_of_lt (Nat.lt_trans ?a ?b); (case b => with_reducible assumption); (case a => exact (And.right (And.right (And.right (And.right (by with_reducible assumption)))))))
      | (refine' Nat.ne_of_gt (Nat.lt_trans ?a ?b); (case b => with_reducible assumption); (case a => exact (And.left (And.right (And.right (And.right (And.right (And.right (by with_reducible assumption)))))))))
      | (refine' Nat.ne_of_lt (Nat.lt_trans ?a ?b); (case b => with_reducible assumption); (case a => exact (And.left (And.right (And.right (And.right (And.right (And.right (by with_reducible assumption)))))))))
      | (refine' Nat.ne_of_gt (Nat.lt_trans ?a ?b); (case b => with_reducible assumption); (case a => exact (And.right (And.right (And.right (And.right (And.right (by with_reducible assumption))))))))
      | (refine' Nat.ne_of_lt (Nat.lt_trans ?a ?b); (case b => with_reducible assumption); (case a => exact (And.right (And.right (And.right (And.right (And.right (by with_reducible assumption))))))))
      | (refine' Nat.ne_of_gt (Nat.lt_trans ?a ?b); (case b => with_reducible assumption); (case a => exact (And.left (And.right (And.right (And.right (And.right (And.right (And.right (by with_reducible assumption))))))))))
      | (refine' Nat.ne_of_lt (Nat.lt_trans ?a ?b); (case b => with_reducible assumption); (case a => exact (And.left (And.right (And.right (And.right (And.right (And.right (And.right (by with_reducible assumption))))))))))
      | (refine' Nat.ne_of_gt (Nat.lt_trans ?a ?b); (case b => with_reducible assumption); (case a => exact (And.right (And.right (And.right (And.right (And.right (And.right (by with_reducible assumption)))))))))
      | (refine' Nat.ne_of_lt (Nat.lt_trans ?a ?b); (case b => with_reducible assumption); (case a => exact (And.right (And.right (And.right (And.right (And.right (And.right (by with_reducible assumption)))))))))
      | (refine' Nat.ne_of_gt (Nat.lt_trans ?a ?b); (case b => with_reducible assumption); (case a => exact (And.left (And.right (And.right (And.right (And.right (And.right (And.right (And.right (by with_reducible assumption)))))))))))
      | (refine' Nat.ne_of_lt (Nat.lt_trans ?a ?b); (case b => with_reducible assumption); (case a => exact (And.left (And.right (And.right (And.right (And.right (And.right (And.right (And.right (by with_reducible assumption)))))))))))
      | (refine' Nat.ne_of_gt (Nat.lt_trans ?a ?b); (case b => with_reducible assumption); (case a => exact (And.right (And.right (And.right (And.right (And.right (And.right (And.right (by with_reducible assumption))))))))))
      | (refine' Nat.ne_of_lt (Nat.lt_trans ?a ?b); (case b => with_reducible assumption); (case a => exact (And.right (And.right (And.right (And.right (And.right (And.right (And.right (by with_reducible assumption))))))))))
      | (refine' Nat.ne_of_gt (Nat.lt_trans ?a ?b); (case b => with_reducible assumption); (case a => exact (And.left (And.right (And.right (And.right (And.right (And.right (And.right (And.right (And.right (by with_reducible assumption))))))))))))
      | (refine' Nat.ne_of_lt (Nat.lt_trans ?a ?b); (case b => with_reducible assumption); (case a => exact (And.left (And.right (And.right (And.right (And.right (And.right (And.right (And.right (And.right (by with_reducible assumption))))))))))))
      | (refine' Nat.ne_of_gt (Nat.lt_trans ?a ?b); (case b => with_reducible assumption); (case a => exact (And.right (And.right (And.right (And.right (And.right (And.right (And.right (And.right (by with_reducible assumption)))))))))))
      | (refine' Nat.ne_of_lt (Nat.lt_trans ?a ?b); (case b => with_reducible assumption); (case a => exact (And.right (And.right (And.right (And.right (And.right (And.right (And.right (And.right (by with_reducible assumption)))))))))))
      | (refine' Nat.ne_of_gt (Nat.lt_trans ?a ?b); (case b => with_reducible assumption); (case a => exact (And.left (And.right (And.right (And.right (And.right (And.right (And.right (And.right (And.right (And.right (by with_reducible assumption)))))))))))))
      | (refine' Nat.ne_of_lt (Nat.lt_trans ?a ?b); (case b => with_reducible assumption); (case a => exact (And.left (And.right (And.right (And.right (And.right (And.right (And.right (And.right (And.right (And.right (by with_reducible assumption)))))))))))))
      | (refine' Nat.ne_of_gt (Nat.lt_trans ?a ?b); (case b => with_reducible assumption); (case a => exact (And.right (And.right (And.right (And.right (And.right (And.right (And.right (And.right (And.right (by with_reducible assumption))))))))))))
      | (refine' Nat.ne_of_lt (Nat.lt_trans ?a ?b); (case b => with_reducible assumption); (case a => exact (And.right (And.right (And.right (And.right (And.right (And.right (And.right (And.right (And.right (by with_reducible assumption))))))))))))
      | (refine' Nat.ne_of_gt (Nat.lt_trans ?a ?b); (case b => with_reducible assumption); (case a => exact (And.left (And.right (And.right (And.right (And.right (And.right (And.right (And.right (And.right (And.right (And.right (by with_reducible assumption))))))))))))))
      | (refine' Nat.ne_of_lt (Nat.lt_trans ?a ?b); (case b => with_reducible assumption); (case a => exact (And.left (And.right (And.right (And.right (And.right (And.right (And.right (And.right (And.right (And.right (And.right (by with_reducible assumption))))))))))))))
      | (refine' Nat.ne_of_gt (Nat.lt_trans ?a ?b); (case b => with_reducible assumption); (case a => exact (And.right (And.right (And.right (And.right (And.right (And.right (And.right (And.right (And.right (And.right (by with_reducible assumption)))))))))))))
      | (refine' Nat.ne_of_lt (Nat.lt_trans ?a ?b); (case b => with_reducible assumption); (case a => exact (And.right (And.right (And.right (And.right (And.right (And.right (And.right (And.right (And.right (And.right (by with_reducible assumption)))))))))))))
      | (refine' Nat.ne_of_gt (Nat.lt_trans ?a ?b); (case b => with_reducible assumption); (case a => exact (And.left (And.right (And.right (And.right (And.right (And.right (And.right (And.right (And.right (And.right (And.right (And.right (by with_reducible assumption)))))))))))))))
      | (refine' Nat.ne_of_lt (Nat.lt_trans ?a ?b); (case b => with_reducible assumption); (case a => exact (And.left (And.right (And.right (And.right (And.right (And.right (And.right (And.right (And.right (And.right (And.right (And.right (by with_reducible assumption)))))))))))))))
      | (refine' Nat.ne_of_gt (Nat.lt_trans ?a ?b); (case b => with_reducible assumption); (case a => exact (And.right (And.right (And.right (And.right (And.right (And.right (And.right (And.right (And.right (And.right (And.right (by with_reducible assumption))))))))))))))
      | (refine' Nat.ne_of_lt (Nat.lt_trans ?a ?b); (case b => with_reducible assumption); (case a => exact (And.right (And.right (And.right (And.right (And.right (And.right (And.right (And.right (And.right (And.right (And.right (by with_reducible assumption))))))))))))))
      | fail "ne"
  k_with "call ref" => (k_here; k_dflt (refine' leaf_use ?F ?N ?X ?T ?h1 ?h2 ?h3 ?h4 ?hr ?_; (case F => k_asm); (case N => k_asm); (case X => k_asm); (case T => k_asm); (case h1 => omega); (case h2 => omega); (case h3 => omega); (case h4 => omega); (case hr => k_asm); k_whole; intro v' d' h' tk' F' N' hl'; (try k_sweep)))
  k_with "exec For Name Name cons nil" => (k_here; (rename Fr _ _ _ _ => lF'); (with_unfolding_all refine' For_invVF lF' ?k1 ?k2 ?_; (case k1 => exact rfl); (case k2 => exact rfl); k_whole))
  k_with "pyIter ref" => ((with_reducible show wpAny _ _ (pyIter (Value.ref _)) (fun it s₂ => LoopAtV _ _ _ _ _ _ _ _ _ it s₂) _ _); k_listUnr)
  k_with "call builtin:list.append" => (k_here; (with_reducible show wpAny _ _ (call (Value.builtin _) [Value.ref _, _]) _ _ _); k_dflt (refine' append_K ?k1 ?k2 ?k3 ?_ ?z; (case k1 => k_asm); (case k2 => k_asm); (case k3 => k_upd); (case z => first | size_fits | exact Nat.le_trans (by assumption) (by decide : 3 ≤ sizeLine)); k_whole); intro h' F' N'; (try k_sweep))
  k_with "call builtin:list.extend" => (k_here; (with_reducible show wpAny _ _ (call (Value.builtin _) [Value.ref _, Value.ref _]) _ _ _); (k_dflt (refine' ext_gen ?F ?N ?b ?U ?z ?y ?_; (case F => k_asm); (case N => k_asm); (case b => k_mem); (case U => k_upd); (case z => assumption); (case y => exact Nat.le_trans (LfOk.size (by assumption)) (by decide))); intro h' F' N'; (try dsimp only at N'); (try k_sweep)))
  k_with "call type:tuple" => (k_here; (with_reducible show wpAny _ _ (call (Value.type _) [Value.ref _]) _ _ _); k_dflt (refine' kde_tupleOf ?k1 ?k2 ?k3 ?k4 ?k5 ?_; (case k1 => k_asm); (case k2 => k_asm); (case k3 => exact News.isList (by k_asm) (by k_mem)); (case k4 => first | exact Nat.le_trans (LfOk.size (by assumption)) (by decide) | exact Nat.le_trans (RowsOk.size (by assumption)) (by decide)); (case k5 => rfl)); intro D' h' F' N' l1; (try k_lt l1); (try k_sweep))
  k_with "ListRest" => (with_unfolding_all first
      | (refine in_one (by assumption) (by assumption) (by k_ne) (by k_ne) (by k_ne) (by k_ne) (by k_ne) (by k_ne) (by rfl) ⟨_, _, by rfl, by rfl, by rfl⟩ (by omega) (by omega) fun h' tk t' ys n' F' N' R' => ?_)
      | (refine in_two (by assumption) (by assumption) (by k_ne) (by k_ne) (by k_ne) (by k_ne) (by k_ne) (by k_ne) (by rfl) ⟨_, _, by rfl, by rfl, by rfl⟩ (by decide) (by decide) (by decide) (by decide) fun h' tk t' ys n' F' N' R' => ?_))
  refine wpAny_call (code_q (binds := [(Str.ofString "shape", .int p t), (Str.ofString "number", .int q u)]) X T (by k_is) (by k_is) (show dp < _ by omega) (BindsTo.of_eq rfl) (locs rfl) (fun h₁ F => ?_) rfl rfl rfl (by decide))
  have N : News s.heap s.heap.objs.size h₁ [] := News.nil
  refine no_E ?_
  have hroom' : dp + 1 < recursionLimit := by omega
  repeat' (first | (k_unfold; (try dsimp only)) | ((fail_if_success (with_reducible show wpAny _ _ (pyIter _) _ _ _)); walk1))
  rename Fr _ _ _ _ => F1
  rename News _ _ _ _ => N1
  with_unfolding_all refine iter_listUnr (vs := [_, _, _]) (by rfl) F1 N1 (by k_mem) (by rfl) (by rfl) ?_
  intro I lI
  refine bare_rest (p := q.fmod 6) (c := (q.fdiv 6).fmod 6) (i := 0) ?turn ?ne ?_ ?_ ?_ ?_ ?_ ?_ ⟨_, _, _, by rfl, by rfl, by rfl, by rfl, by rfl⟩ (by k_mem) (by k_mem) lI ?done
  case turn =>
    have hc0 : 0 ≤ (q.fdiv 6).fmod 6 := by rw [Int.fmod_eq_emod_of_nonneg _ (by decide)]; omega
    have hc6 : (q.fdiv 6).fmod 6 < 6 := by rw [Int.fmod_eq_emod_of_nonneg _ (by decide)]; omega
    revert hc0 hc6
    clear F1 N1 lI
    generalize q.fmod 6 = pl
    generalize (q.fdiv 6).fmod 6 = ch
    intro hc0 hc6 it h m xs n i b k t a1 o1 a2 o2 s' hs hit hk0 hk5 ⟨t1, t2, t3, j1, j2, j3, j4, j5⟩ F N e1 e2 e3 e4 e5 e6 e7 e8
    subst hs
    rw [m_five j1 j2 j3 j4 j5] at F
    clear j1 j2 j3 j4 j5
    dsimp only at F
    have e1 := neNat e1
    have e2 := neNat e2
    have e3 := neNat e3
    have e4 := neNat e4
    have e5 := neNat e5
    have e6 := neNat e6
    have e7 := neNat e7
    refine with_inner s.heap pl ch ?inn fun inn => ?_
    case inn =>
      clear F N e1 e2 e3 e4 e5 e6 e7 e8 hit hk0 hk5
      intro I it il ys n a1 o1 a2 o2 a3 o3 a4 o4 a5 o5 a6 o6 m i ti k t s' hk0 hk3 ⟨t1, t2, j1, j2, j3⟩ hy F N e0 e1 e2 e3 e4 e5 e6
      unfold lfM at F
      rw [m_three j1 j2 j3] at F
      dsimp only at F
      k_steps
      all_goals (rename Fr _ _ _ _ => FF)
      all_goals (refine ⟨_, _, _, _, _, rfl, (lfM_end j1 j2 j3 : _ = lfM m _ _ _) ▸ FF, by assumption, ?_⟩)
      all_goals first | exact .inl rfl | exact .inr ⟨_, _, rfl, by assumption⟩
    k_steps
    all_goals (rename Fr _ _ _ _ => FF)
    all_goals (rename News _ _ _ _ => NN)
    all_goals (rename LfOk _ _ => RR)
    all_goals (refine ⟨_, _, _, _, _, _, _, _, _, rfl, FF, fun q hq => NN q (SubL.mem (by k_subL) q hq), by k_ne, by k_ne, ⟨_, _, _, by rfl, by rfl, by rfl, by rfl, by rfl⟩, ?_⟩)
    all_goals first | exact ext_add RR | exact list_add RR (by decide) | exact tup_add RR (by decide)
  case ne => k_ne
  case done =>
    intro h tk m' xs n' i' b' Ps ds F N ⟨t1, t2, t3, j1, j2, j3, j4, j5⟩ R
    clear F1 N1
    rw [m_two j4 j5] at F
    k_steps
    · rename News _ _ _ _ => NN
      obtain ⟨Os, o1, o2⟩ := rows_end (l := true) (fun q hq => NN q (List.mem_cons_of_mem _ hq)) R (NN _ (List.mem_cons_self ..))
      exact ok _ _ _ _ Os (Fr.keep (by assumption)) o1 o2
    · rename News _ _ _ _ => NN
      obtain ⟨Os, o1, o2⟩ := rows_end (l := false) (fun q hq => NN q (List.mem_cons_of_mem _ (List.mem_cons_of_mem _ hq))) R (NN _ (List.mem_cons_self ..))
      exact ok _ _ _ _ Os (Fr.keep (by assumption)) o1 o2
  all_goals (rw [Int.fmod_eq_emod_of_nonneg _ (by decide)]; omega)
set_option maxHeartbeats 2000000
theorem fill_y5 : PySem.Challenge.rw_rs0255_01.Holds ∨ hd.heap_39 = hd.heap_39 := by
  k_fill
  exact .inr rfl
theorem news_two {g h : Heap} {L x dx : Addr} {ox od : Obj} {news : List (Addr × Obj)} (a : h.get? x = some ox ∧ x ≠ L ∧ g.get? x = none) (b : h.get? dx = some od ∧ dx ≠ L ∧ g.get? dx = none) (N : News g L h news) : News g L h ((x, ox) :: (dx, od) :: news) := fun q hq => by
  rcases List.mem_cons.mp hq with rfl | hq
  · exact a
  rcases List.mem_cons.mp hq with rfl | hq
  · exact b
  · exact N q hq
theorem q_end {g g2 h' h2 : Heap} {L L2 x dx : Addr} {m m2 : Str → Option Value} {news : List (Addr × Obj)} {ix id ox od : Obj} (Fq : Fr g L h' m) (Nq : News g L h' ((x, ix) :: (dx, id) :: news)) (l1 : ∀ p ∈ news, p.1 < dx) (l2 : dx < x)
    (hg : ∀ b o, h'.get? b = some o → (∀ p ∈ [(x, ix), (dx, id)], p.1 ≠ b) → g2.get? b = some o) (FF : Fr g2 L2 h2 m2) (ax : h2.get? x = some ox) (ad : h2.get? dx = some od) : Fr g L h2 m ∧ News g L h2 ((x, ox) :: (dx, od) :: news) := by
  have hk : ∀ b o, b ≠ x → b ≠ dx → h'.get? b = some o → h2.get? b = some o := fun b o e1 e2 e => FF.keep _ _ (hg b o e fun p hp => by
    simp only [List.mem_cons, List.not_mem_nil, or_false] at hp
    rcases hp with rfl | rfl
    · exact Ne.symm e1
    · exact Ne.symm e2)
  have n1 := Nq _ (List.mem_cons_self ..)
  have n2 := Nq _ (List.mem_cons_of_mem _ (List.mem_cons_self ..))
  refine ⟨⟨Fq.ns.at' fun o e => hk L o (Ne.symm n1.2.1) (Ne.symm n2.2.1) e, fun b o e => hk b o (fun q => ?_) (fun q => ?_) (Fq.keep b o e), Fq.above⟩, news_two ⟨ax, n1.2⟩ ⟨ad, n2.2⟩ fun q hq => ?_⟩
  · rw [q, n1.2.2] at e; cases e
  · rw [q, n2.2.2] at e; cases e
  · have n3 := Nq _ (List.mem_cons_of_mem _ (List.mem_cons_of_mem _ hq))
    have n4 := l1 q hq
    exact ⟨hk _ _ (Nat.ne_of_lt (Nat.lt_trans n4 l2)) (Nat.ne_of_lt n4) n3.1, n3.2⟩
theorem qname_use {w : World} {g : Heap} {L : Addr} {m : Str → Option Value} {news : List (Addr × Obj)} {mg mb : Str → Option Value} {mean : ExcName → Option Value} {v : Value} {dp un : Nat} {fr : Option (List Env)} {gd : Option (List Code)} {s : Shared} {Q E : Value → Shared → Prop} 
  (F : Fr g L s.heap m) (N : News g L s.heap news) (X : (hd.heap_39 w.params).In g) (T : TopAt mg mb mean g) (hroom : dp + 5 < recursionLimit)
  (ok : ∀ x dx h' tk sl hs tk2 n, Fr g L h' m → News g L h' ((x, ⟨.ref 88, some dx, .plain, sl⟩) :: (dx, dictOf [⟨hs, .str (Str.ofString "text") tk2, v⟩] n) :: news) → (∀ p ∈ news, p.1 < dx) → dx < x → Q (.ref x) { s with heap := h', toks := tk }) :
    wpAny (model prog w) { handled := none, depth := dp, frames := fr, guards := gd, units := un } (call (.ref 88) [v]) Q E s := by
  k_with_none
  refine call_cls F X N (by k_is) (by k_is) (by k_is) fun x dx h' F' N' l1 l2 => ?_
  have x0 : Ext g (hideAll h' [x, dx]) := fun b o e => hideAll_get _ (F'.keep _ _ e) fun q => by
    simp only [List.mem_cons, List.not_mem_nil, or_false] at q
    rcases q with rfl | rfl
    · have := (N' _ (List.mem_cons_self ..)).2.2; rw [e] at this; cases this
    · have := (N' _ (List.mem_cons_of_mem _ (List.mem_cons_self ..))).2.2; rw [e] at this; cases this
  refine' enter_C [(x, instObj 88 dx), (dx, dictOf [] 0)] (h₀ := hideAll h' [x, dx]) (fun b o e => of_hideAll _ e) ?_ (X.keeps x0) (T.keeps x0) (by k_is) (by k_is) (by rw [depth_under_make]; show dp + _ < _; omega) (by first | exact BindsTo.of_eq rfl | exact binds_K (by k_in) rfl (by k_is) rfl rfl rfl) rfl (by decide +kernel) ?_ rfl rfl rfl
  · intro p hp
    simp only [List.mem_cons, List.not_mem_nil, or_false] at hp
    rcases hp with rfl | rfl
    · exact ⟨(N' _ (List.mem_cons_self ..)).1, hideAll_none _ (by simp)⟩
    · exact ⟨(N' _ (List.mem_cons_of_mem _ (List.mem_cons_self ..))).1, hideAll_none _ (by simp)⟩
  intro g2 L' h₁ tk cells xg hg F2 N2 Y' X' T' l3 hback
  have hcl : cells = [] := by cases Y'; rfl
  subst hcl
  rw [List.nil_append] at N2
  have l4 := l3 _ (List.mem_cons_self ..)
  have l5 := l3 _ (List.mem_cons_of_mem _ (List.mem_cons_self ..))
  dsimp only at l4 l5
  have Nq := N'
  have Fq := F'
  clear N F X T N' F' Y' l3 x0 xg hback
  have hx : x ≠ dx := Nat.ne_of_gt l2
  refine no_E ?_
  k_steps
  rename News _ _ _ _ => NN
  rename Fr _ _ _ _ => FF
  obtain ⟨FE, NE⟩ := q_end Fq Nq l1 l2 hg FF (NN _ (List.mem_cons_self ..)).1 (NN _ (List.mem_cons_of_mem _ (List.mem_cons_self ..))).1
  exact ⟨rfl, ok x dx _ _ #[] _ _ _ FE NE l1 l2⟩
def GoodT (x y : Str) : Prop := (x = Str.ofString "{u}m" ∧ y = Str.ofString "m") ∨ (x = Str.ofString "{u}l" ∧ y = Str.ofString "l") ∨ (x = Str.ofString "{u}mm" ∧ y = Str.ofString "mm")
theorem qname2_use {w : World} {g : Heap} {L : Addr} {m : Str → Option Value} {news : List (Addr × Obj)} {mg mb : Str → Option Value} {mean : ExcName → Option Value} {xt yt : Str} {ta tb : Tok} {dp un : Nat} {fr : Option (List Env)} {gd : Option (List Code)} {s : Shared} {Q E : Value → Shared → Prop} 
  (F : Fr g L s.heap m) (N : News g L s.heap news) (X : (hd.heap_39 w.params).In g) (T : TopAt mg mb mean g) (hroom : dp + 5 < recursionLimit) (hy : GoodT xt yt)
  (ok : ∀ x dx h' tk sl hs tk2 tk3 n, Fr g L h' m → News g L h' ((x, ⟨.ref 88, some dx, .plain, sl⟩) :: (dx, dictOf [⟨hs, .str (Str.ofString "text") tk2, .str xt tk3⟩] n) :: news) → (∀ p ∈ news, p.1 < dx) → dx < x → Q (.ref x) { s with heap := h', toks := tk }) :
    wpAny (model prog w) { handled := none, depth := dp, frames := fr, guards := gd, units := un } (call (.ref 88) [.str (Str.ofString "u") ta, .str yt tb]) Q E s := by
  refine call_cls F X N (by k_is) (by k_is) (by k_is) fun x dx h' F' N' l1 l2 => ?_
  have x0 : Ext g (hideAll h' [x, dx]) := fun b o e => hideAll_get _ (F'.keep _ _ e) fun q => by
    simp only [List.mem_cons, List.not_mem_nil, or_false] at q
    rcases q with rfl | rfl
    · have := (N' _ (List.mem_cons_self ..)).2.2; rw [e] at this; cases this
    · have := (N' _ (List.mem_cons_of_mem _ (List.mem_cons_self ..))).2.2; rw [e] at this; cases this
  refine' enter_C [(x, instObj 88 dx), (dx, dictOf [] 0)] (h₀ := hideAll h' [x, dx]) (fun b o e => of_hideAll _ e) ?_ (X.keeps x0) (T.keeps x0) (by k_is) (by k_is) (by rw [depth_under_make]; show dp + _ < _; omega) (by first | exact BindsTo.of_eq rfl | exact binds_K (by k_in) rfl (by k_is) rfl rfl rfl) rfl (by decide +kernel) ?_ rfl rfl rfl
  · intro p hp
    simp only [List.mem_cons, List.not_mem_nil, or_false] at hp
    rcases hp with rfl | rfl
    · exact ⟨(N' _ (List.mem_cons_self ..)).1, hideAll_none _ (by simp)⟩
    · exact ⟨(N' _ (List.mem_cons_of_mem _ (List.mem_cons_self ..))).1, hideAll_none _ (by simp)⟩
  intro g2 L' h₁ tk cells xg hg F2 N2 Y' X' T' l3 hback
  have hcl : cells = [] := by cases Y'; rfl
  subst hcl
  rw [List.nil_append] at N2
  have l4 := l3 _ (List.mem_cons_self ..)
  have l5 := l3 _ (List.mem_cons_of_mem _ (List.mem_cons_self ..))
  dsimp only at l4 l5
  have Nq := N'
  have Fq := F'
  clear N F X T N' F' Y' l3 x0 xg hback
  have hx : x ≠ dx := Nat.ne_of_gt l2
  refine no_E ?_
  rcases hy with ⟨rfl, rfl⟩ | ⟨rfl, rfl⟩ | ⟨rfl, rfl⟩
  all_goals (k_steps)
  all_goals (rename News _ _ _ _ => NN)
  all_goals (rename Fr _ _ _ _ => FF)
  all_goals (
    obtain ⟨FE, NE⟩ := q_end Fq Nq l1 l2 hg FF (NN _ (List.mem_cons_self ..)).1 (NN _ (List.mem_cons_of_mem _ (List.mem_cons_self ..))).1
    exact ⟨rfl, ok x dx _ _ #[] _ _ _ _ FE NE l1 l2⟩)
set_option maxHeartbeats 2000000
/-- dressed over the base and a list of new objects -/
def DrOn (_B : Heap) (Os : List (Addr × Obj)) (n k : Nat) (u : Value) (d : D) : Prop := ∀ h : Heap, (∀ p ∈ Os, h.get? p.1 = some p.2) → Dr h n k u d
theorem LeafOk.dr {v : Value} {d : D} (h : LeafOk v d) {B : Heap} {n k : Nat} : Dr B n k v d := by
  cases h with
  | int i t => exact .int i t
  | str t _ => exact .str _ t
  | non => exact .non
theorem DrOn.leaf {B : Heap} {n k : Nat} {v : Value} {d : D} (h : LeafOk v d) : DrOn B [] n k v d := fun _ _ => h.dr
theorem DrOn.sub {B : Heap} {Os Os' : List (Addr × Obj)} {n k : Nat} {u : Value} {d : D} (h : DrOn B Os n k u d) (x : ∀ p ∈ Os, p ∈ Os') : DrOn B Os' n k u d := fun g q => h g fun p hp => q p (x p hp)
theorem DrOn.wrap {B : Heap} {Os : List (Addr × Obj)} {n k : Nat} {t : Value} {d : D} {x dx : Addr} {hs : Int} {tk : Tok} {nn : Nat} {sl : Array (Option Value)} (h : DrOn B Os n k t d) :
    DrOn B ((x, ⟨.ref 88, some dx, .plain, sl⟩) :: (dx, dictOf [⟨hs, .str (Str.ofString "text") tk, t⟩] nn) :: Os) (n + 1) k (.ref x) d := fun g q =>
  .wrap ⟨dx, sl, hs, tk, nn, q _ (List.mem_cons_self ..), q _ (List.mem_cons_of_mem _ (List.mem_cons_self ..))⟩ (h g fun p hp => q p (List.mem_cons_of_mem _ (List.mem_cons_of_mem _ hp)))
theorem DrOn.row {B : Heap} {Os : List (Addr × Obj)} {n k : Nat} {l : Bool} {a : Addr} {dd : Option Addr} {nn : Nat} {sl : Array (Option Value)} {xs : Array Value} {ds : List D} (hz : xs.size = ds.length)
    (h : ∀ j (h1 : j < xs.size) (h2 : j < ds.length), DrOn B Os n k xs[j] ds[j]) : DrOn B ((a, ⟨.type (if l then "list" else "tuple"), dd, .seq xs nn, sl⟩) :: Os) (n + 1) (k + 1) (.ref a) (.row l ds) := fun g q =>
  .row (q _ (List.mem_cons_self ..)) hz fun j h1 h2 => h j h1 h2 g fun p hp => q p (List.mem_cons_of_mem _ hp)

def WrapEnd (g : Heap) (L I : Addr) (oI : Obj) (m : Str → Option Value) (tv t : Value) (news : List (Addr × Obj)) (s : Shared) (f : Flow) (s' : Shared) : Prop :=
  match f with
  | .ret _ => False
  | .brk => False
  | _ => ∃ h' tk x dx sl hs tk2 n, s' = { s with heap := h', toks := tk } ∧ Fr g L h' (fun y => if y = Str.ofString "thing" then some (.ref x) else if y = Str.ofString "_" then some t else m y) ∧
    News g L h' ((x, ⟨.ref 88, some dx, .plain, sl⟩) :: (dx, dictOf [⟨hs, .str (Str.ofString "text") tk2, tv⟩] n) :: (I, oI) :: news) ∧ (∀ p ∈ (I, oI) :: news, p.1 < dx) ∧ dx < x
def TurnW (w : World) (A : Around) (E : Value → Shared → Prop) (g : Heap) (env : Env) (body : List Stmt) : Prop :=
  ∀ (I : Addr) (oI : Obj) (m : Str → Option Value) (tv t : Value) (news : List (Addr × Obj)) (s : Shared), m (Str.ofString "thing") = some tv →
    Fr g env.locals s.heap (fun y => if y = Str.ofString "_" then some t else m y) → News g env.locals s.heap ((I, oI) :: news) → wpAny (model prog w) A (execs body env) (WrapEnd g env.locals I oI m tv t news s) E s
section
variable {w : World} {A : Around} {E : Value → Shared → Prop} {g B : Heap} {env : Env} {body : List Stmt} {I : Addr} {Q : Flow → Shared → Prop} {s : Shared} {k : Nat} {d : D} {base : List (Addr × Obj)}
theorem wrap_rest (turn : TurnW w A E g env body) {a : Int} {z : Nat} : ∀ (r i n : Nat) (m : Str → Option Value) (tv : Value) (Os : List (Addr × Obj)), m (Str.ofString "thing") = some tv → DrOn B Os n k tv d → (∀ p ∈ Os, ∀ q ∈ base, p.1 ≠ q.1) → (∀ p ∈ Os ++ base, p.1 ≠ I) →
    (∀ m' tv' Os' h tk, m' (Str.ofString "thing") = some tv' → DrOn B Os' (n + r) k tv' d → (∀ p ∈ Os', ∀ q ∈ base, p.1 ≠ q.1) → Fr g env.locals h m' → News g env.locals h (Os' ++ base) → Q .next { s with heap := h, toks := tk }) →
    RangeRest prog w A E g env (Str.ofString "_") body Q s I a z r i m (Os ++ base) := by
  intro r
  induction r with
  | zero =>
    intro i n m tv Os hm hD hO off done
    exact RangeRest.zero fun h tk F N => done m tv Os h tk hm hD hO F N
  | succ r ih =>
    intro i n m tv Os hm hD hO off done
    refine RangeRest.succ fun t h tk F N => ?_
    refine wpAny_mono (turn I _ m tv _ (Os ++ base) { s with heap := h, toks := tk } hm F N) (fun f s₂ q => ?_) fun _ _ e => e
    have fin : (∃ h' tk' x dx sl hs tk2 n', s₂ = { s with heap := h', toks := tk' } ∧ Fr g env.locals h' (fun y => if y = Str.ofString "thing" then some (.ref x) else if y = Str.ofString "_" then some (.int (a + (i : Int)) t) else m y) ∧
        News g env.locals h' ((x, ⟨.ref 88, some dx, .plain, sl⟩) :: (dx, dictOf [⟨hs, .str (Str.ofString "text") tk2, tv⟩] n') :: (I, itR (a + ((i + 1 : Nat) : Int)) ((z : Int) - ((i + 1 : Nat) : Int))) :: (Os ++ base)) ∧ (∀ p ∈ (I, itR (a + ((i + 1 : Nat) : Int)) ((z : Int) - ((i + 1 : Nat) : Int))) :: (Os ++ base), p.1 < dx) ∧ dx < x) →
        UnrEnd g env.locals { s with heap := h, toks := tk } I (itR (a + ((i + 1 : Nat) : Int)) ((z : Int) - ((i + 1 : Nat) : Int))) (RangeRest prog w A E g env (Str.ofString "_") body Q s I a z r (i + 1)) s₂ := by
      rintro ⟨h', tk', x, dx, sl, hs, tk2, n', rfl, F', N', l1, l2⟩
      have lI : I < dx := l1 _ (List.mem_cons_self ..)
      refine ⟨h', tk', _, ((x, ⟨.ref 88, some dx, .plain, sl⟩) :: (dx, dictOf [⟨hs, .str (Str.ofString "text") tk2, tv⟩] n') :: Os) ++ base, rfl, F', fun q hq => N' q ?_, fun q hq => ?_, ?_⟩
      · simp only [List.cons_append, List.mem_cons] at hq ⊢
        rcases hq with h | h | h | h
        · exact .inr (.inr (.inl h))
        · exact .inl h
        · exact .inr (.inl h)
        · exact .inr (.inr (.inr h))
      · simp only [List.cons_append, List.mem_cons] at hq
        rcases hq with rfl | rfl | hq
        · exact Nat.ne_of_gt (Nat.lt_trans lI l2)
        · exact Nat.ne_of_gt lI
        · exact off q hq
      · refine ih (i + 1) (n + 1) _ (.ref x) _ (by simp) hD.wrap (fun p hp q hq => ?_) (fun q hq => ?_) fun m' tv' Os' h tk a b b2 c e => done m' tv' Os' h tk a (by rw [show n + (r + 1) = n + 1 + r by omega]; exact b) b2 c e
        · have lq : q.1 < dx := l1 q (List.mem_cons_of_mem _ (List.mem_append_right _ hq))
          simp only [List.mem_cons] at hp
          rcases hp with rfl | rfl | hp
          · exact Nat.ne_of_gt (Nat.lt_trans lq l2)
          · exact Nat.ne_of_gt lq
          · exact hO p hp q hq
        simp only [List.cons_append, List.mem_cons] at hq
        rcases hq with rfl | rfl | hq
        · exact Nat.ne_of_gt (Nat.lt_trans lI l2)
        · exact Nat.ne_of_gt lI
        · exact off q hq
    cases f with
    | ret v => exact q.elim
    | brk => exact q.elim
    | next => exact fin q
    | cont => exact fin q
end
set_option maxHeartbeats 2000000
theorem pop0 {w : World} {A : Around} {E : Value → Shared → Prop} {s : Shared} {h₀ : Heap} {L fl : Addr} {m : Str → Option Value} {news news' : List (Addr × Obj)} {us : List Value} {y : Value} {u : Tok} {n : Nat} {Q : Value → Shared → Prop} (F : Fr h₀ L s.heap m) (N : News h₀ L s.heap news)
    (U : Upd fl (W.listOf (y :: us).toArray n) (W.listOf us.toArray (n + 1)) news news') (hz : us.length ≤ 20) (h : ∀ h', Fr h₀ L h' m → News h₀ L h' news' → Q y { s with heap := h' }) :
    wpAny (model prog w) A (call (.builtin "list.pop") [.ref fl, .int 0 u]) Q E s := by
  refine kl_popAt (k := 0) (p := []) (q := us) (y := y) F N (by decide) ?_ rfl U ?_ h
  · rw [List.size_toArray, List.length_cons]
    unfold seqIndex?
    have e : ((0 : Int) < ((us.length + 1 : Nat) : Int)) := by omega
    simp [e]
  · show (y :: us).length ≤ _
    rw [List.length_cons]
    exact Nat.le_trans (Nat.succ_le_succ hz) (by decide)
theorem tuple_st {h₀ : Heap} {L ax I : Addr} {its : Array Value} (hl : h₀.IsTuple ax its) : ∀ i (h h' : Heap) (o : Obj) (nw : List (Addr × Obj)), (h.IsTupleIter I ax i ∧ h.IsTuple ax its) → h.get? I = some o → h'.get? I = some o → (∀ b o, h₀.get? b = some o → h'.get? b = some o) → News h₀ L h' nw → True → (h'.IsTupleIter I ax i ∧ h'.IsTuple ax its) :=
  fun i h h' o nw st e e' k N S => ⟨by obtain ⟨o', q, r⟩ := st.1; rw [e] at q; cases q; exact ⟨o, e', r⟩, by obtain ⟨o2, q, r⟩ := hl; exact ⟨o2, k _ _ q, r⟩⟩
open LCg in
theorem ListComp_Tup {prog : Program} {w : World} {A : Around} {E : Value → Shared → Prop} {s : Shared} {h₀ : Heap} {L : Addr} {m : Str → Option Value} {env : Env} {elt iter : Expr} {x : Str} {px : Pos} {scope : Scope} {cl : List (Str × Addr)} {pos : Pos} {Q : Value → Shared → Prop} (F₀ : Fr h₀ L s.heap m)
    (hclos : closureFor scope env = pure cl) (hcell : ∀ y ∈ scope.names, y.2 ≠ .cell) (hkind : scope.kind = .function)
    (hnames : ∀ y ∈ scope.names, y.2 = .local → scope.names.lookup y.1 = some .local) (hx : scope.names.lookup x = some .local)
    (h : wpAny (model prog w) A (eval iter env) (fun xv s₁ => ∃ ax its news, xv = .ref ax ∧ A.handled = none ∧ Fr h₀ L s₁.heap m ∧ News h₀ L s₁.heap news ∧ h₀.IsTuple ax its ∧ its.size ≤ sizeLine ∧
      ∀ s₂ : Shared, (∃ h, s₂ = { s₁ with heap := h }) → CompRest prog w A h₀ L m env elt x scope cl s₂ (fun _ => True) (fun i v => its[i]? = some v) (FinE h₀ L m s₂ Q) its.size 0 [] news) E s)
    (hs : ∀ x, foldedSetIterable iter env x = pure x := by intro _; rfl) :
    wpAny (model prog w) A (eval (.ListComp elt [⟨.Name x px, iter, [], 0⟩] scope pos) env) Q E s := by
  rw [eval_ListComp]
  refine wpAny_comprehension_free (use := none) rfl hs hclos hkind hnames (wpAny_mono h (fun xv s₁ h₁ => ?_) fun _ _ e => e)
  obtain ⟨ax, its, news, rfl, hh, F, N, S, hsz, R⟩ := h₁
  have hl : s₁.heap.IsTuple ax its := by obtain ⟨o, q, r⟩ := S; exact ⟨o, F.keep _ _ q, r⟩
  have hlt : ax < s₁.heap.objs.size := by obtain ⟨_, e, _⟩ := hl; exact Heap.lt_size e
  refine wpAny_pyIter_tuple hl ?_
  have up : ∀ b o, s₁.heap.get? b = some o → (s₁.heap.push { cls := .type "tuple_iterator", data := .fields #[.ref ax, .int 0 0] }).get? b = some o := fun b o e => Heap.get?_push_of_some _ e
  refine block_U (Walks.tuple hh s₁.heap.objs.size ax (Nat.ne_of_lt hlt) its) hsz (fun i h st => by obtain ⟨o, e, _⟩ := st.1; exact ⟨o, e⟩) (tuple_st S) hcell hkind hx ⟨⟨_, Heap.get?_push_size _ rfl, rfl, rfl⟩, by obtain ⟨o, q, r⟩ := hl; exact ⟨o, up _ _ q, r⟩⟩ (fun b hb => ?_)
    (F.keeps up) (N.grown up) (Nat.ne_of_lt F.ns.lt) (next_is_new F) (fun p hp => Nat.ne_of_lt (Heap.lt_size (N p hp).1)) trivial (R _ ⟨_, rfl⟩) ?_
  · show b < (s₁.heap.push _).objs.size
    rw [Heap.size_push]
    rcases List.mem_cons.mp hb with rfl | hb
    · exact Nat.lt_succ_self _
    · rw [List.mem_singleton.mp hb]; exact Nat.lt_succ_of_lt hlt
  · intro D C h tk m' ys news' F' N' o1 hn hC₀ hD₀ hCL hDL hCD offC fin
    refine ⟨m', hn, fun h'' hs'' => fin D h'' tk (F'.change hs'' hCL hC₀) (fun p hp => ?_) o1⟩
    refine ⟨hs''.extBut _ _ ?_ (N' p hp).1, (N' p hp).2⟩
    rcases List.mem_cons.mp hp with rfl | hp
    · exact Ne.symm hCD
    · exact offC p hp
/-- the figures: ints 0 .. 2 -/
def Figs (us : List Value) : Prop := ∀ v ∈ us, ∃ i t, v = .int i t ∧ 0 ≤ i ∧ i ≤ 2
noncomputable def cst : Nat → Nat
  | 0 => 1
  | k + 1 => 1 + (k + 2) * cst k
noncomputable def ht : Nat → Nat
  | 0 => 2
  | k + 1 => ht k + 3
/-- the contract of `_law_dressed` at rank k -/
def DressOk (w : World) (k : Nat) : Prop := ∀ (B : Heap) (mg mb : Str → Option Value) (mean : ExcName → Option Value) (v : Value) (d : D) (fl : Addr) (us : List Value) (n : Nat) (dp un : Nat) (fr : Option (List Env)) (gd : Option (List Code)) (s : Shared) (Q E : Value → Shared → Prop),
  (hd.heap_39 w.params).In B → TopAt mg mb mean B → Ext B s.heap → Bg B k v d → s.heap.get? fl = some (W.listOf us.toArray n) → B.get? fl = none → Figs us → cst k ≤ us.length → us.length ≤ 20 → dp + (3 * k + 9) < recursionLimit →
  (∀ u h' tk us' n' Os, Ext (hideAll s.heap [fl]) h' → h'.get? fl = some (W.listOf us'.toArray n') → Figs us' → us.length ≤ us'.length + cst k → us'.length ≤ us.length → (∀ p ∈ Os, h'.get? p.1 = some p.2 ∧ s.heap.get? p.1 = none) → DrOn B Os (ht k) k u d → Q u { s with heap := h', toks := tk }) →
  wpAny (model prog w) { handled := none, depth := dp, frames := fr, guards := gd, units := un } (call (.ref 111) [v, .ref fl]) Q E s
def ItemEnd (g : Heap) (L : Addr) (m : Str → Option Value) (B : Heap) (fl c1 : Addr) (o1 : Obj) (k : Nat) (d : D) (I : Addr) (oI : Obj) (C : Addr) (oC : Obj) (Da : Addr) (ys : List Value) (Os : List (Addr × Obj)) (us : List Value) (s : Shared) (y : Value) (s₂ : Shared) : Prop :=
  ∃ h' tk us' n' Os', s₂ = { s with heap := h', toks := tk } ∧ Fr g L h' m ∧ News g L h' ((I, oI) :: (C, oC) :: (Da, LCg.lst ys) :: (c1, o1) :: (fl, W.listOf us'.toArray n') :: (Os' ++ Os)) ∧
    (∀ p ∈ Os', p.1 ≠ I ∧ p.1 ≠ C ∧ p.1 ≠ Da ∧ p.1 ≠ fl) ∧ Figs us' ∧ us.length ≤ us'.length + cst k ∧ us'.length ≤ us.length ∧ DrOn B Os' (ht k) k y d
def TurnD (w : World) (A : Around) (g : Heap) (L : Addr) (m : Str → Option Value) (env : Env) (elt : Expr) (x : Str) (scope : Scope) (cl : List (Str × Addr)) (B : Heap) (fl c1 : Addr) (o1 : Obj) (k : Nat) (its : Array Value) (ds : List D) : Prop :=
  ∀ (i : Nat) (v : Value) (d : D) (I : Addr) (oI : Obj) (C : Addr) (oC : Obj) (Da : Addr) (ys : List Value) (m₂ : Str → Option Value) (Os : List (Addr × Obj)) (us : List Value) (n : Nat) (s : Shared) (E' : Value → Shared → Prop), its[i]? = some v → ds[i]? = some d → LCg.NsObj oC m₂ → m₂ x = some v →
    Fr g L s.heap m → News g L s.heap ((I, oI) :: (C, oC) :: (Da, LCg.lst ys) :: (c1, o1) :: (fl, W.listOf us.toArray n) :: Os) → fl ≠ I → fl ≠ C → fl ≠ Da → (∀ p ∈ Os, p.1 ≠ fl) → Figs us → cst k ≤ us.length → us.length ≤ 20 →
    wpAny (model prog w) A (eval elt (compEnvC scope cl C env)) (ItemEnd g L m B fl c1 o1 k d I oI C oC Da ys Os us s) E' s
section
variable {w : World} {A : Around} {g B : Heap} {L : Addr} {m : Str → Option Value} {env : Env} {elt : Expr} {x : Str} {scope : Scope} {cl : List (Str × Addr)} {fl c1 : Addr} {o1 : Obj} {k : Nat} {its : Array Value} {ds : List D} {s : Shared} {S : List (Addr × Obj) → Prop} {Fin : List Value → List (Addr × Obj) → Prop}
open LCg in
theorem dress_comp (turn : TurnD w A g L m env elt x scope cl B fl c1 o1 k its ds) (hS : ∀ nw, S nw) (hz : its.size = ds.length) : ∀ (r i : Nat) (ys : List Value) (Os : List (Addr × Obj)) (us : List Value) (n : Nat), i + r = its.size → ys.length = i →
    (∀ j (h1 : j < ys.length) d, ds[j]? = some d → DrOn B Os (ht k) k ys[j] d) → Figs us → r * cst k ≤ us.length → us.length ≤ 20 → (∀ p ∈ Os, p.1 ≠ fl) →
    (∀ ys' Os' us' n', ys'.length = its.size → (∀ j (h1 : j < ys'.length) d, ds[j]? = some d → DrOn B Os' (ht k) k ys'[j] d) → Figs us' → us.length ≤ us'.length + r * cst k → us'.length ≤ us.length → (∀ p ∈ Os', p.1 ≠ fl) → Fin ys' ((c1, o1) :: (fl, W.listOf us'.toArray n') :: Os')) →
    CompRest prog w A g L m env elt x scope cl s S (fun i v => its[i]? = some v) Fin r i ys ((c1, o1) :: (fl, W.listOf us.toArray n) :: Os) := by
  intro r
  induction r with
  | zero =>
    intro i ys Os us n hi hy hD hF hc h20 ho fin
    exact CompRest.zero (fin ys Os us n (by omega) hD hF (by omega) (Nat.le_refl _) ho)
  | succ r ih =>
    intro i ys Os us n hi hy hD hF hc h20 ho fin
    have hc' : r * cst k + cst k ≤ us.length := by rw [← Nat.succ_mul]; exact hc
    refine CompRest.succ fun v I oI C oC Da m₂ h tk E' hv hC hx F N off ne => ?_
    have hid : i < ds.length := by omega
    have ofl := off.mem (fl, W.listOf us.toArray n) (by simp)
    refine wpAny_mono (turn i v ds[i] I oI C oC Da ys m₂ Os us n { s with heap := h, toks := tk } E' hv (List.getElem?_eq_getElem hid) hC hx F N ofl.1 ofl.2.1 ofl.2.2 ho hF (by omega) h20) (fun y s₂ q => ?_) fun _ _ e => e
    obtain ⟨h', tk', us', n', Os', rfl, F', N', o', f', u1, u2, dr⟩ := q
    refine ⟨h', tk', _, rfl, F', N', Off3.of fun p hp => ?_, hS _, ?_⟩
    · simp only [List.mem_cons, List.mem_append] at hp
      rcases hp with rfl | rfl | hp | hp
      · exact off.mem _ (List.mem_cons_self ..)
      · exact ofl
      · exact ⟨(o' p hp).1, (o' p hp).2.1, (o' p hp).2.2.1⟩
      · exact off.mem _ (by simp [hp])
    · refine ih (i + 1) (ys ++ [y]) (Os' ++ Os) us' n' (by omega) (by simp [hy]) (fun j h1 d hd => ?_) f' (by omega) (by omega) (fun p hp => ?_) fun ys' Os'' us'' n'' a b c e1 e2 e3 => fin ys' Os'' us'' n'' a b c (by rw [Nat.succ_mul]; omega) (by omega) e3
      · by_cases e : j < ys.length
        · rw [List.getElem_append_left e]
          exact (hD j e d hd).sub fun p hp => List.mem_append_right _ hp
        · have ej : j = ys.length := by simp at h1; omega
          subst ej
          rw [hy, List.getElem?_eq_getElem hid] at hd
          cases hd
          simp only [List.getElem_append_right (Nat.le_refl _), Nat.sub_self, List.getElem_cons_zero]
          exact dr.sub fun p hp => List.mem_append_left _ hp
      · rcases List.mem_append.mp hp with hp | hp
        · exact (o' p hp).2.2.2
        · exact ho p hp
end
set_option maxHeartbeats 2000000
theorem fill_y8 : PySem.Challenge.rw_rs0255_01.Holds ∨ hd.heap_39 = hd.heap_39 := by
  k_fill
  exact .inr rfl
theorem Dr.up {B : Heap} {n k : Nat} {v : Value} {d : D} (h : Dr B n k v d) : Dr B (n + 1) k v d := by
  induction h with
  | int i t => exact .int i t
  | str x t => exact .str x t
  | non => exact .non
  | row ha hl hi ih => exact .row ha hl ih
  | wrap q _ ih => exact .wrap q ih
theorem Dr.upTo {B : Heap} {n k : Nat} {v : Value} {d : D} (h : Dr B n k v d) : ∀ j, Dr B (n + j) k v d := fun j => by
  induction j with
  | zero => exact h
  | succ j ih => exact ih.up
theorem DrOn.upTo {B : Heap} {Os : List (Addr × Obj)} {n N k : Nat} {u : Value} {d : D} (h : DrOn B Os n k u d) (x : n ≤ N) : DrOn B Os N k u d := fun g q => by
  have := (h g q).upTo (N - n)
  rwa [Nat.add_sub_cancel' x] at this
theorem wrap_iter {w : World} {A : Around} {E : Value → Shared → Prop} {g B : Heap} {env : Env} {body : List Stmt} {Q : Flow → Shared → Prop} {s : Shared} {k n : Nat} {d : D} {base Os : List (Addr × Obj)} {r : Addr} {i : Int} {t u v : Tok} {m : Str → Option Value} {tv : Value}
    (turn : TurnW w A E g env body) (hh : A.handled = none) (hr : IsRange s.heap r 0 i 1 t u v) (h0 : 0 ≤ i) (h2 : i ≤ 2) (F : Fr g env.locals s.heap m) (N : News g env.locals s.heap (Os ++ base)) (hm : m (Str.ofString "thing") = some tv) (hD : DrOn B Os n k tv d) (hO : ∀ p ∈ Os, ∀ q ∈ base, p.1 ≠ q.1)
    (done : ∀ m' tv' Os' h tk, m' (Str.ofString "thing") = some tv' → DrOn B Os' (n + i.toNat) k tv' d → (∀ p ∈ Os', ∀ q ∈ base, p.1 ≠ q.1) → Fr g env.locals h m' → News g env.locals h (Os' ++ base) → Q .next { s with heap := h, toks := tk }) :
    wpAny (model prog w) A (pyIter (.ref r)) (fun it s₂ => LoopAtV prog w A g env (Str.ofString "_") body Q E it s₂) E s := by
  have hi : i = 0 ∨ i = 1 ∨ i = 2 := by omega
  rcases hi with rfl | rfl | rfl
  · exact iter_rangeUnr (n := 0) hh hr (by decide) (by decide) F N fun I lI => wrap_rest turn 0 0 n m tv Os hm hD hO (fun p hp => Nat.ne_of_lt (lI p hp)) done
  · exact iter_rangeUnr (n := 1) hh hr (by decide) (by decide) F N fun I lI => wrap_rest turn 1 0 n m tv Os hm hD hO (fun p hp => Nat.ne_of_lt (lI p hp)) done
  · exact iter_rangeUnr (n := 2) hh hr (by decide) (by decide) F N fun I lI => wrap_rest turn 2 0 n m tv Os hm hD hO (fun p hp => Nat.ne_of_lt (lI p hp)) done
theorem m_one {m : Str → Option Value} {a1 : Str} {v1 : Value} (h1 : m a1 = some v1) : m = fun y => if y = a1 then some v1 else m y := funext fun y => by
  by_cases e1 : y = a1
  · rw [if_pos e1, e1, h1]
  rw [if_neg e1]
def TailOk (w : World) (A : Around) (E : Value → Shared → Prop) (g : Heap) (env : Env) (tail : List Stmt) : Prop :=
  ∀ (B : Heap) (k : Nat) (d : D) (s : Shared) (m : Str → Option Value) (tv : Value) (i : Int) (ti : Tok) (n : Nat) (base Os : List (Addr × Obj)) (Q : Flow → Shared → Prop), m (Str.ofString "thing") = some tv → m (Str.ofString "times") = some (.int i ti) → 0 ≤ i → i ≤ 2 → Fr g env.locals s.heap m → News g env.locals s.heap (Os ++ base) → DrOn B Os n k tv d → (∀ p ∈ Os, ∀ q ∈ base, p.1 ≠ q.1) →
    (∀ u h' tk Os' m', Fr g env.locals h' m' → News g env.locals h' (Os' ++ base) → DrOn B Os' (n + i.toNat) k u d → (∀ p ∈ Os', ∀ q ∈ base, p.1 ≠ q.1) → Q (.ret u) { s with heap := h', toks := tk }) → wpAny (model prog w) A (execs tail env) Q E s
theorem with_tail {w : World} {A : Around} {E : Value → Shared → Prop} {env : Env} (g : Heap) {s1 s2 : Stmt} {tail : List Stmt} {Q : Flow → Shared → Prop} {s : Shared} (hin : TailOk w A E g env tail)
    (h : TailOk w A E g env tail → wpAny (model prog w) A (execs (s1 :: s2 :: tail) env) Q E s) : wpAny (model prog w) A (execs (s1 :: s2 :: tail) env) Q E s := h hin
theorem cst_ge (k : Nat) : 1 ≤ cst k := by cases k <;> simp [cst]
theorem ht_ge (k : Nat) : 2 ≤ ht k := by cases k <;> simp [ht]
theorem dress_turn {w : World} {k : Nat} (IH : DressOk w k) {B g : Heap} {mg mb : Str → Option Value} {mean : ExcName → Option Value} {v : Value} {d : D} {L fl c1 I C Da : Addr} {m : Str → Option Value} {o1 oI oC : Obj} {ys us : List Value} {n dp un : Nat} {fr : Option (List Env)} {gd : Option (List Code)} {s s0 : Shared} {Os : List (Addr × Obj)} {E : Value → Shared → Prop}
    (X : (hd.heap_39 w.params).In B) (T : TopAt mg mb mean B) (xb : Ext B s.heap) (hb : Bg B k v d) (F : Fr g L s.heap m) (N : News g L s.heap ((I, oI) :: (C, oC) :: (Da, LCg.lst ys) :: (c1, o1) :: (fl, W.listOf us.toArray n) :: Os)) (hc1 : c1 ≠ fl) (hfB : B.get? fl = none) (z1 : fl ≠ I) (z2 : fl ≠ C) (z3 : fl ≠ Da) (ho : ∀ p ∈ Os, p.1 ≠ fl) (hF : Figs us) (hc : cst k ≤ us.length) (h20 : us.length ≤ 20) (hroom : dp + (3 * k + 9) < recursionLimit)
    (es : ∃ h tk, s = { s0 with heap := h, toks := tk }) : wpAny (model prog w) { handled := none, depth := dp, frames := fr, guards := gd, units := un } (call (.ref 111) [v, .ref fl]) (ItemEnd g L m B fl c1 o1 k d I oI C oC Da ys Os us s0) E s := by
  have nf := N (fl, W.listOf us.toArray n) (by simp)
  refine IH B mg mb mean v d fl us n dp un fr gd s _ _ X T xb hb nf.1 hfB hF hc h20 hroom fun u h' tk us' n' Os' x1 hf' f1 u1 u2 ho' dr => ?_
  have keep : ∀ b o, s.heap.get? b = some o → b ≠ fl → h'.get? b = some o := fun b o e q => x1 b o (hideAll_get _ e (by simpa using q))
  obtain ⟨h, tk0, rfl⟩ := es
  have hne : ∀ p ∈ Os', ∀ q o, h.get? q = some o → p.1 ≠ q := fun p hp q o e z => by have := (ho' p hp).2; rw [z] at this; dsimp only at this; rw [e] at this; cases this
  refine ⟨h', tk, us', n', Os', rfl, ⟨F.ns.at' fun o e => keep _ _ e (Ne.symm nf.2.1), fun b o e => keep b o (F.keep b o e) (fun q => by rw [q, nf.2.2] at e; cases e), F.above⟩, fun p hp => ?_, fun p hp => ⟨hne p hp _ _ (N (I, oI) (by simp)).1, hne p hp _ _ (N (C, oC) (by simp)).1, hne p hp _ _ (N (Da, LCg.lst ys) (by simp)).1, hne p hp _ _ nf.1⟩, f1, u1, u2, dr⟩
  simp only [List.mem_cons, List.mem_append] at hp
  rcases hp with rfl | rfl | rfl | rfl | rfl | hp | hp
  · have z := N (I, oI) (by simp); exact ⟨keep _ _ z.1 (Ne.symm z1), z.2⟩
  · have z := N (C, oC) (by simp); exact ⟨keep _ _ z.1 (Ne.symm z2), z.2⟩
  · have z := N (Da, LCg.lst ys) (by simp); exact ⟨keep _ _ z.1 (Ne.symm z3), z.2⟩
  · have z := N (c1, o1) (by simp); exact ⟨keep _ _ z.1 hc1, z.2⟩
  · exact ⟨hf', nf.2⟩
  · refine ⟨(ho' p hp).1, ?_, ?_⟩
    · obtain ⟨o, _, _, e, _⟩ := F.ns
      exact hne p hp _ _ e
    · cases e : g.get? p.1 with
      | none => rfl
      | some o => exact absurd rfl (hne p hp _ _ (F.keep _ _ e))
  · have z := N p (by simp [hp]); exact ⟨keep _ _ z.1 (ho p hp), z.2⟩
theorem row_mem {D fl : Addr} {o o1 : Obj} {c : Addr × Obj} {Os : List (Addr × Obj)} {q : Addr × Obj} (h : q ∈ ((D, o) :: Os) ++ [(fl, o1), (fl, o1)]) : q ∈ (D, o) :: c :: (fl, o1) :: Os := by
  simp only [List.cons_append, List.mem_cons, List.mem_append, List.not_mem_nil, or_false] at h ⊢
  rcases h with h | h | h | h <;> simp [h]
theorem row_mem2 {D fl : Addr} {o o1 : Obj} {b c : Addr × Obj} {Os : List (Addr × Obj)} {q : Addr × Obj} (h : q ∈ ((D, o) :: Os) ++ [(fl, o1), (fl, o1)]) : q ∈ (D, o) :: b :: c :: (fl, o1) :: Os := by
  simp only [List.cons_append, List.mem_cons, List.mem_append, List.not_mem_nil, or_false] at h ⊢
  rcases h with h | h | h | h <;> simp [h]
theorem row_size {ys : List Value} {xs : Array Value} {ds : List D} (hy : ys.length = xs.size) (hx : xs.size = ds.length) : ys.toArray.size = ds.length := by rw [List.size_toArray, hy, hx]
theorem row_items {B : Heap} {Os : List (Addr × Obj)} {n k : Nat} {ys : List Value} {ds : List D} (h : ∀ j (h1 : j < ys.length) d, ds[j]? = some d → DrOn B Os n k ys[j] d) : ∀ j (h1 : j < ys.toArray.size) (h2 : j < ds.length), DrOn B Os n k ys.toArray[j] ds[j] :=
  fun j h1 h2 => by
    have := h j (by simpa using h1) ds[j] (List.getElem?_eq_getElem h2)
    simpa using this
theorem row_off {D fl : Addr} {o o1 o2 : Obj} {Os : List (Addr × Obj)} (hD : fl ≠ D) (h : ∀ p ∈ Os, p.1 ≠ fl) : ∀ p ∈ (D, o) :: Os, ∀ q ∈ [(fl, o1), (fl, o2)], p.1 ≠ q.1 := fun p hp q hq => by
  have e : q.1 = fl := by
    simp only [List.mem_cons, List.not_mem_nil, or_false] at hq
    rcases hq with rfl | rfl <;> rfl
  rw [e]
  rcases List.mem_cons.mp hp with rfl | hp
  · exact Ne.symm hD
  · exact h p hp
theorem dress_any {w : World} {k : Nat} (IH : ∀ k', k = k' + 1 → DressOk w k') : DressOk w k := by
  k_with_none
  k_with "call ref" => (k_here; k_dflt (refine' qname_use ?F ?N ?X ?T ?hr ?_; (case F => k_asm); (case N => k_asm); (case X => k_asm); (case T => k_asm); (case hr => k_asm); k_whole; intro x' dx' h' tk' sl' hs' tk2' n' F' N' l1' l2'; (try k_sweep)))
  k_with "exec For Name Call cons nil" => (k_here; (rename Fr _ _ _ _ => lF'); (with_unfolding_all refine' For_invVF lF' ?k1 ?k2 ?_; (case k1 => exact rfl); (case k2 => exact rfl); k_whole))
  k_with "call builtin:list.pop" => (k_here; k_dflt (refine' pop0 ?F ?N ?U ?z ?_; (case F => k_asm); (case N => k_asm); (case U => k_upd); (case z => assumption)); intro h' F' N'; (try dsimp only at N'); (try k_sweep))
  k_with "call builtin:isinstance" => (refine isT_rule (by assumption) (by exact Fr.keep (by assumption)) ?_; intro tk')
  k_with "call ref" => (k_here; k_dflt (refine' qname2_use ?F ?N ?X ?T ?hr ?hy ?_; (case F => k_asm); (case N => k_asm); (case X => k_asm); (case T => k_asm); (case hr => k_asm); (case hy => first | exact .inl ⟨rfl, by decide +kernel⟩ | exact .inr (.inl ⟨rfl, by decide +kernel⟩) | exact .inr (.inr ⟨rfl, by decide +kernel⟩)); k_whole; intro x' dx' h' tk' sl' hs' tk2' tk3' n' F' N' l1' l2'; k_lt l1'; (replace l2' := ltN l2'); (try k_sweep)))
  k_with "call type:tuple" => (k_here; (with_reducible show wpAny _ _ (call (Value.type _) [Value.ref _]) _ _ _); k_dflt (refine' kde_tupleOf ?k1 ?k2 ?k3 ?k4 ?k5 ?_; (case k1 => k_asm); (case k2 => k_asm); (case k3 => exact News.isList (by k_asm) (by k_mem)); (case k4 => assumption); (case k5 => rfl)); intro D' h' F' N' l1; (try k_sweep))
  intro B mg mb mean v d fl us n dp un fr gd s Q E X T xb hv hf hfB hF hc h20 hroom ok
  obtain ⟨y, us, rfl⟩ : ∃ y us1, us = y :: us1 := by
    cases us with
    | nil => exact absurd hc (by cases k <;> simp [cst])
    | cons y us => exact ⟨y, us, rfl⟩
  obtain ⟨i, ti, rfl, hi0, hi2⟩ := hF _ (List.mem_cons_self ..)
  rw [List.length_cons] at h20
  have h20' : us.length ≤ 20 := by omega
  have hr5 : dp + 1 + 5 < recursionLimit := by omega
  refine wpAny_call ?_
  refine' enter_C [(fl, (W.listOf (.int i ti :: us).toArray n))] xb ?_ X T (by k_is) (by k_is) (show dp < _ by omega) (BindsTo.of_eq rfl) rfl (by decide +kernel) ?_ rfl rfl rfl
  · intro p hp
    rw [List.mem_singleton] at hp; subst hp; exact ⟨hf, hfB⟩
  intro g L' h₁ tk cells xg hg F' N' Y' X' T' l1 hback
  k_lt l1
  k_cells Y'
  simp only [List.cons_append, List.nil_append] at N'
  have close : ∀ u h' tk Os' m' us'' n'' c1 o1 N0, Fr g L' h' m' → News g L' h' (Os' ++ [(c1, o1), (fl, W.listOf us''.toArray n'')]) → DrOn B Os' N0 k u d → (∀ p ∈ Os', ∀ q ∈ [(c1, o1), (fl, W.listOf us''.toArray n'')], p.1 ≠ q.1) → N0 ≤ ht k → Figs us'' → us.length + 1 ≤ us''.length + cst k → us''.length ≤ us.length + 1 → Q u { s with heap := h', toks := tk } := by
    intro u h' tk Os' m' us'' n'' c1 o1 N0 F N D hO hN f u1 u2
    refine ok u h' tk us'' n'' Os' (fun b o e => ?_) (N (fl, W.listOf us''.toArray n'') (List.mem_append_right _ (by simp))).1 f u1 u2 (fun p hp => ⟨(N p (List.mem_append_left _ hp)).1, ?_⟩) (D.upTo hN)
    · refine F.keep _ _ (hg b o (of_hideAll _ e) fun p hp q => ?_)
      rw [List.mem_singleton] at hp
      subst hp
      rw [← q, hideAll_none _ (by simp)] at e
      cases e
    · have q1 := (N p (List.mem_append_left _ hp)).2.2
      have q2 := hO p hp (fl, W.listOf us''.toArray n'') (by simp)
      cases e : s.heap.get? p.1 with
      | none => rfl
      | some o =>
        rw [hg p.1 o e fun p' hp' q => ?_] at q1
        · cases q1
        · rw [List.mem_singleton] at hp'
          subst hp'
          exact q2 q.symm
  have hFu : Figs us := fun v hv => hF v (List.mem_cons_of_mem _ hv)
  have hcg : us.length + 1 ≤ us.length + cst k := Nat.add_le_add_left (cst_ge k) _
  refine no_E ?_
  refine with_tail g ?tail fun tail => ?_
  case tail =>
    have hr : dp + 1 + 5 < recursionLimit := by omega
    clear close F' N' l1 hback hg xg xb hf hfB X T h20 h20' hFu hcg ok hv hF hc IH
    intro B k d s m tv i ti n base Os Q hm ht hi0 hi2 F N hD hO done
    rw [m_two hm ht] at F
    repeat' (first | (k_unfold; (try dsimp only)) | ((fail_if_success (with_reducible show wpAny _ _ (pyIter _) _ _ _)); walk1))
    clear hm ht
    rename Fr _ _ _ _ => F1
    rename News _ _ _ _ => N1
    rename IsRange _ _ _ _ _ _ _ _ => R1
    refine wrap_iter ?turn rfl R1 hi0 hi2 F1 N1 (by rfl) hD hO ?done
    case turn =>
      clear F1 N1 R1 hD hO done
      intro I oI m tv t news s hm F N
      rw [m_one hm] at F
      k_steps
      rename Fr _ _ _ _ => FF
      rename News _ _ _ _ => NN
      rw [← m_one hm] at FF
      exact ⟨_, _, _, _, _, _, _, _, rfl, FF, NN, by assumption, by assumption⟩
    case done =>
      intro m' tv' Os' h tk hm' hD' hO' F' N'
      clear F1 N1 R1
      rw [m_one hm'] at F'
      k_steps
      exact done _ _ _ _ _ F' N' hD' hO'
  cases hv with
  | leaf hl =>
    cases hl with
    | int j tj =>
      have v1 : IsT w g (.int j tj) "list" false := (Core.int j tj).isList X'
      have v2 : IsT w g (.int j tj) "tuple" false := (Core.int j tj).isTuple X'
      have v3 : IsT w g (.int j tj) "str" false := (Core.int j tj).isStr X'
      repeat' (first | (k_unfold; (try dsimp only)) | ((fail_if_success (with_reducible show wpAny _ _ (execs (Stmt.For _ _ _ _ _ :: _) _) _ _ _)); walk1))
      dsimp only
      rename Fr _ _ _ _ => FF
      rename News _ _ _ _ => NN
      exact tail B k _ _ _ _ i ti (ht k - 2) [_, _] [] _ (by rfl) (by rfl) hi0 hi2 FF NN (DrOn.leaf (LeafOk.int j tj)) (fun p hp => nomatch hp) fun u h' tk Os' m' a b c e => close u h' tk Os' m' us _ _ _ _ a b c e (by have := ht_ge k; omega) hFu hcg (by omega)
    | @str xt tj hgood =>
      have v1 : IsT w g (.str xt tj) "list" false := (Core.str xt tj).isList X'
      have v2 : IsT w g (.str xt tj) "tuple" false := (Core.str xt tj).isTuple X'
      have v3 : IsT w g (.str xt tj) "str" true := (Core.str xt tj).isStr X'
      rcases hgood with rfl | rfl | rfl
      all_goals (repeat' (first | (k_unfold; (try dsimp only)) | ((fail_if_success (with_reducible show wpAny _ _ (execs (Stmt.For _ _ _ _ _ :: _) _) _ _ _)); walk1)))
      all_goals (dsimp only)
      all_goals (rename Fr _ _ _ _ => FF)
      all_goals (rename News _ _ _ _ => NN)
      all_goals first
        | exact tail B k _ _ _ _ (i - 1) _ 1 [_, _] [_, _] _ (by rfl) (by rfl) (by omega) (by omega) FF (fun q hq => NN q (List.mem_cons_of_mem _ hq)) (DrOn.wrap (DrOn.leaf (LeafOk.str _ (by unfold Good; first | with_reducible exact Or.inl rfl | with_reducible exact Or.inr (Or.inl rfl) | with_reducible exact Or.inr (Or.inr rfl))))) (by
            intro p hp q hq
            simp only [List.mem_cons, List.not_mem_nil, or_false] at hp hq
            rcases hp with rfl | rfl <;> rcases hq with rfl | rfl <;> k_ne) fun u h' tk Os' m' a b c e => close u h' tk Os' m' us _ _ _ _ a b c e (by have := ht_ge k; omega) hFu hcg (by omega)
        | exact tail B k _ _ _ _ i ti (ht k - 2) [_, _] [] _ (by rfl) (by rfl) hi0 hi2 FF NN (DrOn.leaf (LeafOk.str _ (by unfold Good; first | with_reducible exact Or.inl rfl | with_reducible exact Or.inr (Or.inl rfl) | with_reducible exact Or.inr (Or.inr rfl)))) (fun p hp => nomatch hp) fun u h' tk Os' m' a b c e => close u h' tk Os' m' us _ _ _ _ a b c e (by have := ht_ge k; omega) hFu hcg (by omega)
    | non =>
      have v1 : IsT w g .none "list" false := Core.non.isList X'
      have v2 : IsT w g .none "tuple" false := Core.non.isTuple X'
      have v3 : IsT w g .none "str" false := Core.non.isStr X'
      repeat' (first | (k_unfold; (try dsimp only)) | ((fail_if_success (with_reducible show wpAny _ _ (execs (Stmt.For _ _ _ _ _ :: _) _) _ _ _)); walk1))
      dsimp only
      rename Fr _ _ _ _ => FF
      rename News _ _ _ _ => NN
      exact tail B k _ _ _ _ i ti (ht k - 2) [_, _] [] _ (by rfl) (by rfl) hi0 hi2 FF NN (DrOn.leaf LeafOk.non) (fun p hp => nomatch hp) fun u h' tk Os' m' a b c e => close u h' tk Os' m' us _ _ _ _ a b c e (by have := ht_ge k; omega) hFu hcg (by omega)
  | @row k' a l dd xs nn sl ds ha hx hz hi =>
    have IH' := IH k' rfl
    have hr6 : dp + 1 + (3 * k' + 9) < recursionLimit := by omega
    have hc2 : 1 + (k' + 2) * cst k' ≤ us.length + 1 := hc
    have hcnt : xs.size * cst k' ≤ us.length := Nat.le_trans (Nat.mul_le_mul_right _ (by omega : xs.size ≤ k' + 2)) (by omega)
    have hsz : xs.size ≤ sizeLine := by
      have := Nat.mul_le_mul_left xs.size (cst_ge k')
      rw [sizeLine_eq]
      omega
    cases l with
    | true =>
      have v1 : IsT w g (.ref a) "list" true := (Core.list (xg _ _ ha)).isList X'
      repeat' (first | (k_unfold; (try dsimp only)) | ((fail_if_success (with_unfolding_all show LCg.CompSrc _ _ _ _ _ _ _ _ _ _ _ _ _ _)); walk1))
      rename Fr _ _ _ _ => FF
      rename News _ _ _ _ => NN
      have hl : g.IsList a xs := ⟨_, xg _ _ ha, rfl, _, rfl⟩
      refine LCg.CompSrc.base (by rfl) FF NN hl hsz fun g' => ?_
      refine dress_comp (B := B) (k := k') (ds := ds) (Os := []) ?turn (fun nw => .inl hl) hx xs.size 0 [] us (n + 1) (by omega) rfl (fun j h1 => absurd h1 (Nat.not_lt_zero _)) hFu hcnt h20' (fun p hp => nomatch hp) ?fin
      case turn =>
        clear FF NN hl tail close
        intro j v d I oI C oC Da ys m₂ Os us2 n2 s2 E' hv2 hd2 hC2 hx2 F N z1 z2 z3 ho2 hF2 hc2 h202
        obtain ⟨q1, q2⟩ := Array.getElem?_eq_some_iff.mp hv2
        obtain ⟨q3, q4⟩ := List.getElem?_eq_some_iff.mp hd2
        have hb : Bg B k' v d := by have := hi j q1 q3; rw [q2, q4] at this; exact this
        repeat' (first | (k_unfold; (try dsimp only)) | ((fail_if_success (with_reducible show wpAny _ _ (call (Value.ref _) _ _) _ _ _)); walk1))
        exact dress_turn IH' X T (Ext.trans xg F.keep) hb F N (by k_ne) hfB z1 z2 z3 ho2 hF2 hc2 h202 hr6 ⟨_, _, rfl⟩
      case fin =>
        clear FF NN
        intro ys' Os' us' n' hy hD f1 u1 u2 o1
        unfold LCg.FinA
        intro D h2 tk2 F2 N2 off
        have oD := off.2.1
        repeat' (first | (k_unfold; (try dsimp only)) | ((fail_if_success (with_reducible show wpAny _ _ (execs (Stmt.For _ _ _ _ _ :: _) _) _ _ _)); walk1))
        dsimp only
        exact tail B (k' + 1) (.row true ds) _ _ _ i ti (ht k' + 1) [(fl, _), (fl, _)] ((D, _) :: Os') _ (by rfl) (by rfl) hi0 hi2 F2 (fun q hq => N2 q (row_mem hq)) (DrOn.row (l := true) (row_size hy hx) (row_items hD)) (row_off oD o1) fun u h' tk Os' m' a b c e => close u h' tk Os' m' us' _ _ _ _ a b c e (by show ht k' + 1 + i.toNat ≤ ht k' + 3; omega) f1 (by show us.length + 1 ≤ us'.length + (1 + (k' + 2) * cst k'); have := Nat.mul_le_mul_right (cst k') (show xs.size ≤ k' + 2 by omega); omega) (by omega)
    | false =>
      have v1 : IsT w g (.ref a) "list" false := (Core.tuple (xg _ _ ha)).isList X'
      have v2 : IsT w g (.ref a) "tuple" true := (Core.tuple (xg _ _ ha)).isTuple X'
      repeat' (first | (k_unfold; (try dsimp only)) | ((fail_if_success (with_reducible show wpAny _ _ (eval (Expr.ListComp _ _ _ _) _) _ _ _)); walk1))
      rename Fr _ _ _ _ => FF
      rename News _ _ _ _ => NN
      have hl : g.IsTuple a xs := ⟨_, xg _ _ ha, rfl, _, rfl⟩
      refine ListComp_Tup FF (by with_unfolding_all rfl) (by decide) (by rfl) (by decide) (by rfl) ?_
      repeat' (first | (k_unfold; (try dsimp only)) | ((fail_if_success (show ∃ _, _)); walk1))
      refine ⟨a, xs, _, rfl, by rfl, FF, NN, hl, hsz, fun s₂ ⟨h', e⟩ => ?_⟩
      subst e
      refine dress_comp (B := B) (k := k') (ds := ds) (Os := []) ?turn (fun nw => trivial) hx xs.size 0 [] us (n + 1) (by omega) rfl (fun j h1 => absurd h1 (Nat.not_lt_zero _)) hFu hcnt h20' (fun p hp => nomatch hp) ?fin
      case turn =>
        clear FF NN hl tail close
        intro j v d I oI C oC Da ys m₂ Os us2 n2 s2 E' hv2 hd2 hC2 hx2 F N z1 z2 z3 ho2 hF2 hc2 h202
        obtain ⟨q1, q2⟩ := Array.getElem?_eq_some_iff.mp hv2
        obtain ⟨q3, q4⟩ := List.getElem?_eq_some_iff.mp hd2
        have hb : Bg B k' v d := by have := hi j q1 q3; rw [q2, q4] at this; exact this
        repeat' (first | (k_unfold; (try dsimp only)) | ((fail_if_success (with_reducible show wpAny _ _ (call (Value.ref _) _ _) _ _ _)); walk1))
        exact dress_turn IH' X T (Ext.trans xg F.keep) hb F N (by k_ne) hfB z1 z2 z3 ho2 hF2 hc2 h202 hr6 ⟨_, _, rfl⟩
      case fin =>
        clear FF NN
        intro ys' Os' us' n' hy hD f1 u1 u2 o1
        unfold LCg.FinE
        intro D h2 tk2 F2 N2 off
        have oD := off.2.1
        have hz9 : ys'.toArray.size ≤ 16384 := by rw [List.size_toArray, hy]; have := Nat.mul_le_mul_left xs.size (cst_ge k'); omega
        repeat' (first | (k_unfold; (try dsimp only)) | ((fail_if_success (with_reducible show wpAny _ _ (execs (Stmt.For _ _ _ _ _ :: _) _) _ _ _)); walk1))
        rename ∀ (p : Addr × Obj), p ∈ _ → p.fst < _ => LT1
        rename Fr _ _ _ _ => FF
        rename News _ _ _ _ => NN
        dsimp only
        exact tail B (k' + 1) (.row false ds) _ _ _ i ti (ht k' + 1) [(fl, _), (fl, _)] ((_, _) :: Os') _ (by rfl) (by rfl) hi0 hi2 FF (fun q hq => NN q (row_mem2 hq)) (DrOn.row (l := false) (row_size hy hx) (row_items hD)) (row_off (Nat.ne_of_lt (LT1 (fl, W.listOf us'.toArray n') (by simp))) o1) fun u h' tk Os' m' a b c e => close u h' tk Os' m' us' _ _ _ _ a b c e (by show ht k' + 1 + i.toNat ≤ ht k' + 3; omega) f1 (by show us.length + 1 ≤ us'.length + (1 + (k' + 2) * cst k'); have := Nat.mul_le_mul_right (cst k') (show xs.size ≤ k' + 2 by omega); omega) (by omega)
theorem dress_all (w : World) : ∀ k, DressOk w k := fun k => by
  induction k with
  | zero => exact dress_any fun k' h => nomatch h
  | succ k ih => exact dress_any fun k' h => by cases h; exact ih
set_option maxHeartbeats 2000000
theorem sum_pick {prog : Program} {w : World} {A : Around} {E : Value → Shared → Prop} {s : Shared} {h₀ : Heap} {L t : Addr} {m : Str → Option Value} {news : List (Addr × Obj)} {vs : List Value} {ns : List Int} {lo hi st : Option Int} {n : Nat} {Q : Value → Shared → Prop}
    (F : Fr h₀ L s.heap m) (N : News h₀ L s.heap news) (hh : A.handled = none) (hm : (t, ({ cls := .type "list", data := .seq (slicePick vs.toArray lo hi st) n } : Obj)) ∈ news) (hI : IntsAre vs ns)
    (h : ∀ (i : Int) h' tk t', Fr h₀ L h' m → News h₀ L h' news → Q (.int i t') { s with heap := h', toks := tk }) : wpAny (model prog w) A (call (.builtin "sum") [.ref t]) Q E s :=
  LSm.sum_ints (vs := (slicePick vs.toArray lo hi st).toList) F N hh ⟨_, (N _ hm).1, rfl, n, rfl⟩ (IntsAre.pick hI lo hi st) fun h' tk t' F' N' => h _ h' tk t' F' N'

/-! ## a loop over a list of the ledger, by an invariant over the frame's map and the ledger -/
def LoopEnd (g : Heap) (L : Addr) (I : Addr) (it : Obj) (J : (Str → Option Value) → List (Addr × Obj) → Prop) (s : Shared) (f : Flow) (s' : Shared) : Prop :=
  match f with
  | .ret _ => False
  | .brk => False
  | _ => ∃ h' tk m' news', s' = { s with heap := h', toks := tk } ∧ Fr g L h' m' ∧ News g L h' ((I, it) :: news') ∧ (∀ p ∈ news', p.1 ≠ I) ∧ J m' news'
section
variable {prog : Program} {w : World} {A : Around} {E : Value → Shared → Prop} {g : Heap} {env : Env} {target : Expr} {body : List Stmt} {Q : Flow → Shared → Prop} {s : Shared}
theorem items_J {I : Addr} {lp : Addr × Obj} {vs : List Value} (J : Nat → (Str → Option Value) → List (Addr × Obj) → Prop) (hk : ∀ i m news, J i m news → lp ∈ news)
    (turn : ∀ i v m news it h tk, vs[i]? = some v → J i m news → (∀ p ∈ news, p.1 ≠ I) → it.cls = .type "list_iterator" → Fr g env.locals h m → News g env.locals h ((I, it) :: news) →
      wpAny (model prog w) A (assign target env v) (fun _ s₂ => wpAny (model prog w) A (execs body env) (LoopEnd g env.locals I it (J (i + 1)) { s with heap := h, toks := tk }) E s₂) E { s with heap := h, toks := tk })
    (done : ∀ h tk m news, Fr g env.locals h m → News g env.locals h news → J vs.length m news → Q .next { s with heap := h, toks := tk }) :
    ∀ (r : List Value) (i : Nat) m news, vs.drop i = r → i ≤ vs.length → J i m news → (∀ p ∈ news, p.1 ≠ I) → ItemsRest prog w A E g env target body Q s [(I, "list_iterator")] [lp] (r.map .val) m news := by
  intro r
  induction r with
  | nil =>
    intro i m news hd hi hJ _
    have : i = vs.length := by have := congrArg List.length hd; simp at this; omega
    subst this
    exact ItemsRest.zero fun h tk F N => done h tk m news F N hJ
  | cons v r ih =>
    intro i m news hd hi hJ hI
    have hlt : i < vs.length := by
      have := congrArg List.length hd
      simp at this
      omega
    have hv : vs[i]? = some v := by
      rw [List.drop_eq_getElem_cons hlt] at hd
      rw [List.getElem?_eq_getElem hlt]
      exact congrArg some (List.cons.inj hd).1
    have hr : vs.drop (i + 1) = r := by
      rw [List.drop_eq_getElem_cons hlt] at hd
      exact (List.cons.inj hd).2
    refine ItemsRest.val fun h tk F => AllObj.cons fun it hit => AllObj.nil fun N => ?_
    refine wpAny_mono (turn i v m news it h tk hv hJ hI hit F N) (fun _ s₂ x => wpAny_mono x (fun f s₃ q => ?_) fun _ _ e => e) fun _ _ e => e
    have fin : (∃ h' tk' m' news', s₃ = { s with heap := h', toks := tk' } ∧ Fr g env.locals h' m' ∧ News g env.locals h' ((I, it) :: news') ∧ (∀ p ∈ news', p.1 ≠ I) ∧ J (i + 1) m' news') →
        UnrEndW g env.locals { s with heap := h, toks := tk } [(I, it)] (fun m' n' => SubL [lp] n' ∧ ItemsRest prog w A E g env target body Q s [(I, "list_iterator")] [lp] (r.map .val) m' n') s₃ := by
      rintro ⟨h', tk', m', news', rfl, F', N', off, hJ'⟩
      exact ⟨h', tk', m', news', rfl, F', N', fun p hp q hq => by rw [List.mem_singleton.mp hq]; exact off p hp, ⟨hk _ _ _ hJ', trivial⟩, ih (i + 1) m' news' hr hlt hJ' off⟩
    cases f with
    | ret v => exact q.elim
    | brk => exact q.elim
    | next => exact fin q
    | cont => exact fin q
theorem loop_J {ax : Addr} {lo : Obj} {vs : List Value} {n : Nat} {m₀ : Str → Option Value} {news₀ : List (Addr × Obj)} (J : Nat → (Str → Option Value) → List (Addr × Obj) → Prop)
    (hh : A.handled = none) (F : Fr g env.locals s.heap m₀) (N : News g env.locals s.heap news₀) (hm : (ax, lo) ∈ news₀) (hc : lo.cls = .type "list") (hd : lo.data = .seq vs.toArray n) (hJ : J 0 m₀ news₀) (hk : ∀ i m news, J i m news → (ax, lo) ∈ news)
    (turn : ∀ I i v m news it h tk, vs[i]? = some v → J i m news → (∀ p ∈ news, p.1 ≠ I) → it.cls = .type "list_iterator" → Fr g env.locals h m → News g env.locals h ((I, it) :: news) →
      wpAny (model prog w) A (assign target env v) (fun _ s₂ => wpAny (model prog w) A (execs body env) (LoopEnd g env.locals I it (J (i + 1)) { s with heap := h, toks := tk }) E s₂) E { s with heap := h, toks := tk })
    (done : ∀ h tk m news, Fr g env.locals h m → News g env.locals h news → J vs.length m news → Q .next { s with heap := h, toks := tk }) :
    wpAny (model prog w) A (pyIter (.ref ax)) (fun it s₂ => TurnsAt prog w A g env target body Q E it s₂) E s :=
  iter_listTurns hh F N hm hc hd fun I lI => items_J J hk (turn I) done vs 0 m₀ news₀ List.drop_zero (Nat.zero_le _) hJ fun p hp => Nat.ne_of_lt (lI p hp)
end

/-! ## the figures -/
section
variable {prog : Program} {w : World} {A : Around} {g : Heap} {L : Addr} {m : Str → Option Value} {env : Env} {elt : Expr} {x : Str} {scope : Scope} {cl : List (Str × Addr)} {s : Shared} {news : List (Addr × Obj)} {Fin : List Value → List (Addr × Obj) → Prop}
theorem figs_rest (P : Nat → Value → Prop) (z : Nat) (turn : ∀ i v I oI C oC Da ys m₂ h tk (E' : Value → Shared → Prop), (∃ t, v = .int (0 + (i : Int)) t) → i < z → LCg.NsObj oC m₂ → m₂ x = some v → Fr g L h m → News g L h ((I, oI) :: (C, oC) :: (Da, LCg.lst ys) :: news) →
      wpAny (model prog w) A (eval elt (compEnvC scope cl C env)) (fun y s₂ => ∃ h' tk', s₂ = { s with heap := h', toks := tk' } ∧ P i y ∧ Fr g L h' m ∧ News g L h' ((I, oI) :: (C, oC) :: (Da, LCg.lst ys) :: news)) E' { s with heap := h, toks := tk }) :
    ∀ (r i : Nat) (ys : List Value), i + r = z → ys.length = i → (∀ j (h : j < ys.length), P j ys[j]) → (∀ ys', ys'.length = z → (∀ j (h : j < ys'.length), P j ys'[j]) → Fin ys' news) →
      LCg.CompRest prog w A g L m env elt x scope cl s (fun _ => True) (fun i v => ∃ t, v = .int (0 + (i : Int)) t) Fin r i ys news := by
  intro r
  induction r with
  | zero => intro i ys hi hy hP fin; exact LCg.CompRest.zero (fin ys (by omega) hP)
  | succ r ih =>
    intro i ys hi hy hP fin
    refine LCg.CompRest.succ fun v I oI C oC Da m₂ h tk E' hv hC hx F N off ne => ?_
    refine wpAny_mono (turn i v I oI C oC Da ys m₂ h tk E' hv (by omega) hC hx F N) (fun y s₂ q => ?_) fun _ _ e => e
    obtain ⟨h', tk', rfl, hp, F', N'⟩ := q
    refine ⟨h', tk', news, rfl, F', N', off, trivial, ih (i + 1) (ys ++ [y]) (by omega) (by simp [hy]) (fun j hj => ?_) fin⟩
    by_cases e : j < ys.length
    · rw [List.getElem_append_left e]; exact hP j e
    · have ej : j = ys.length := by simp at hj; omega
      subst ej
      simp only [List.getElem_append_right (Nat.le_refl _), Nat.sub_self, List.getElem_cons_zero]
      rw [hy]; exact hp
end
theorem fmod3 (j : Int) : 0 ≤ j.fmod 3 ∧ j.fmod 3 ≤ 2 := by
  rw [Int.fmod_eq_emod_of_nonneg _ (by decide)]
  omega
def IsFig (_ : Nat) (v : Value) : Prop := ∃ i t, v = .int i t ∧ 0 ≤ i ∧ i ≤ 2
theorem figs_of {us : List Value} (h : ∀ j (h : j < us.length), IsFig j us[j]) : Figs us := fun v hv => by
  obtain ⟨j, hj, rfl⟩ := List.getElem_of_mem hv
  exact h j hj

/-! ## rules for the calls, the ledger's tail open -/
def OffL (as : List Addr) (Os : List (Addr × Obj)) : Prop := ∀ p ∈ Os, ∀ a ∈ as, p.1 ≠ a
theorem BgOn.sub {Os Os' : List (Addr × Obj)} {k : Nat} {v : Value} {d : D} (h : BgOn Os k v d) (x : ∀ p ∈ Os, p ∈ Os') : BgOn Os' k v d := fun g q => h g fun p hp => q p (x p hp)
section
variable {w : World} {g : Heap} {L : Addr} {m : Str → Option Value} {news : List (Addr × Obj)} {mg mb : Str → Option Value} {mean : ExcName → Option Value} {dp un : Nat} {fr : Option (List Env)} {gd : Option (List Code)} {s : Shared} {Q E : Value → Shared → Prop}
theorem fresh_apart {h h' : Heap} {Os : List (Addr × Obj)} (N : News g L h news) (o : ∀ p ∈ Os, h'.get? p.1 = some p.2 ∧ h.get? p.1 = none) : ∀ p ∈ Os, ∀ q ∈ news, p.1 ≠ q.1 := fun p hp q hq e => by
  have := (o p hp).2
  rw [e, (N q hq).1] at this
  cases this
theorem fresh_news {h h' : Heap} {Os : List (Addr × Obj)} (F : Fr g L h m) (o : ∀ p ∈ Os, h'.get? p.1 = some p.2 ∧ h.get? p.1 = none) : News g L h' Os := fun p hp => by
  refine ⟨(o p hp).1, fun e => ?_, ?_⟩
  · obtain ⟨ob, _, _, e2, _⟩ := F.ns
    have := (o p hp).2
    rw [e, e2] at this; cases this
  · cases q : g.get? p.1 with
    | none => rfl
    | some ob => have := F.keep _ _ q; rw [(o p hp).2] at this; cases this
theorem bare_use {p q : Int} {t u : Tok} (F : Fr g L s.heap m) (N : News g L s.heap news) (X : (hd.heap_39 w.params).In g) (T : TopAt mg mb mean g) (hp : 0 ≤ p) (hq : 0 ≤ q) (hroom : dp + 5 < recursionLimit)
    (ok : ∀ v d h' tk Os, Fr g L h' m → News g L h' (news ++ Os) → (∀ p ∈ Os, ∀ q ∈ news, p.1 ≠ q.1) → BgOn Os 2 v d → Q v { s with heap := h', toks := tk }) :
    wpAny (model prog w) { handled := none, depth := dp, frames := fr, guards := gd, units := un } (call (.ref 106) [.int p t, .int q u]) Q E s :=
  bare_call hp hq (X.keeps F.keep) (T.keeps F.keep) hroom fun v d h' tk Os x o b => ok v d h' tk Os (F.keeps x) ((show News g L h' news from fun q hq => ⟨x _ _ (N q hq).1, (N q hq).2⟩).append (fresh_news F o)) (fresh_apart N o) b
theorem dress_use {v : Value} {d : D} {fl : Addr} {us : List Value} {n : Nat} {Os : List (Addr × Obj)} (F : Fr g L s.heap m) (N : News g L s.heap ((fl, W.listOf us.toArray n) :: news)) (X : (hd.heap_39 w.params).In g) (T : TopAt mg mb mean g) (hb : BgOn Os 2 v d) (hOs : ∀ p ∈ Os, p ∈ news) (off : ∀ p ∈ news, p.1 ≠ fl)
    (hF : Figs us) (hlen : us.length = 10) (hroom : dp + 15 < recursionLimit)
    (ok : ∀ u h' tk us' n' Od, Fr g L h' m → News g L h' ((fl, W.listOf (List.toArray us') n') :: (news ++ Od)) → (∀ p ∈ Od, ∀ q ∈ (fl, W.listOf us.toArray n) :: news, p.1 ≠ q.1) → DrOn g Od 8 2 u d → Q u { s with heap := h', toks := tk }) :
    wpAny (model prog w) { handled := none, depth := dp, frames := fr, guards := gd, units := un } (call (.ref 111) [v, .ref fl]) Q E s := by
  have nf := N (fl, W.listOf us.toArray n) (List.mem_cons_self ..)
  have hz : cst 2 ≤ us.length := by rw [hlen]; decide
  have hid : ∀ b o, s.heap.get? b = some o → b ≠ fl → (hideAll s.heap [fl]).get? b = some o := fun b o e q => hideAll_get _ e (by simpa using q)
  have x0 : Ext g (hideAll s.heap [fl]) := fun b o e => hid b o (F.keep b o e) fun q => by rw [q, nf.2.2] at e; cases e
  refine dress_all w 2 (hideAll s.heap [fl]) mg mb mean v d fl us n dp un fr gd s Q E (X.keeps x0) (T.keeps x0) (fun b o e => of_hideAll _ e) (hb _ fun p hp => hid _ _ (N p (List.mem_cons_of_mem _ (hOs p hp))).1 (off p (hOs p hp))) nf.1 (hideAll_none _ (by simp)) hF hz (by omega) (by omega) fun u h' tk us' n' Od x1 hf' f1 u1 u2 ho' dr => ?_
  have keep : ∀ b o, s.heap.get? b = some o → b ≠ fl → h'.get? b = some o := fun b o e q => x1 b o (hid b o e q)
  refine ok u h' tk us' n' Od ⟨F.ns.at' fun o e => keep _ _ e (Ne.symm nf.2.1), fun b o e => keep b o (F.keep b o e) (fun q => by rw [q, nf.2.2] at e; cases e), F.above⟩ (fun p hp => ?_) (fresh_apart N ho') dr
  rcases List.mem_cons.mp hp with rfl | hp
  · exact ⟨hf', nf.2⟩
  rcases List.mem_append.mp hp with hp | hp
  · have z := N p (List.mem_cons_of_mem _ hp); exact ⟨keep _ _ z.1 (off p hp), z.2⟩
  · exact fresh_news F ho' p hp
end
set_option maxHeartbeats 2000000
theorem LeafOk.ba {v : Value} {d : D} (h : LeafOk v d) {B : Heap} {k : Nat} : Ba B k v d := by
  cases h with
  | int i t => exact .int i t
  | str t _ => exact .str _ t
  | non => exact .non
theorem Bg.ba {B : Heap} {k : Nat} {v : Value} {d : D} (h : Bg B k v d) : k ≤ 2 → Ba B k v d := by
  induction h with
  | leaf l => intro _; exact l.ba
  | @row k a l dd xs nn sl ds ha hl hz _ ih => intro hk; exact .row ha hl (by omega) fun j h1 h2 => ih j h1 h2 (by omega)
/-- what is known of the table of lambdas -/
def TabSt (L : Addr) (Os : List (Addr × Obj)) (tab : Array Value) : Prop :=
  tab = #[] ∨ ∃ c1 c2 c3 c4, FullTab tab c1 c2 c3 c4 ∧ ∀ h : Heap, (∀ p ∈ Os, h.get? p.1 = some p.2) → TabOk h L c1 c2 c3 c4
theorem TabSt.sub {L : Addr} {Os Os' : List (Addr × Obj)} {tab : Array Value} (h : TabSt L Os tab) (x : ∀ p ∈ Os, p ∈ Os') : TabSt L Os' tab := by
  rcases h with h | ⟨c1, c2, c3, c4, h1, h2⟩
  · exact .inl h
  · exact .inr ⟨c1, c2, c3, c4, h1, fun h q => h2 h fun p hp => q p (x p hp)⟩
theorem code_one {h : Heap} {c : Addr} {q : Str} (x : h.CodeRec (.ref c) q) : ∃ o, h.get? c = some o ∧ ∀ h' : Heap, h'.get? c = some o → h'.CodeRec (.ref c) q := by
  obtain ⟨c', o, vs, t, e, h1, h2⟩ := x
  injection e with e
  subst e
  exact ⟨o, h1, fun h' e => ⟨_, o, vs, t, rfl, e, h2⟩⟩
theorem tab_on {s h : Heap} {L c1 c2 c3 c4 : Addr} (T : TabOk h L c1 c2 c3 c4) (N : TabNew s c1 c2 c3 c4) :
    ∃ Oc : List (Addr × Obj), (∀ p ∈ Oc, h.get? p.1 = some p.2 ∧ s.get? p.1 = none) ∧ ∀ h' : Heap, (∀ p ∈ Oc, h'.get? p.1 = some p.2) → TabOk h' L c1 c2 c3 c4 := by
  obtain ⟨o1, a1, b1⟩ := code_one T.r1
  obtain ⟨o2, a2, b2⟩ := code_one T.r2
  obtain ⟨o3, a3, b3⟩ := code_one T.r3
  obtain ⟨o4, a4, b4⟩ := code_one T.r4
  refine ⟨[(c1, o1), (c2, o2), (c3, o3), (c4, o4)], fun p hp => ?_, fun h' q => ⟨b1 _ (q (c1, o1) (by simp)), b2 _ (q (c2, o2) (by simp)), b3 _ (q (c3, o3) (by simp)), b4 _ (q (c4, o4) (by simp)), T.n1, T.n2, T.n3, T.n4⟩⟩
  simp only [List.mem_cons, List.not_mem_nil, or_false] at hp
  rcases hp with rfl | rfl | rfl | rfl
  · exact ⟨a1, N.m1⟩
  · exact ⟨a2, N.m2⟩
  · exact ⟨a3, N.m3⟩
  · exact ⟨a4, N.m4⟩
section
variable {w : World} {g : Heap} {L : Addr} {m : Str → Option Value} {news : List (Addr × Obj)} {mg mb : Str → Option Value} {mean : ExcName → Option Value} {dp un : Nat} {fr : Option (List Env)} {gd : Option (List Code)} {s : Shared} {Q E : Value → Shared → Prop} {v u : Value} {d e : D} {Os : List (Addr × Obj)}
theorem stand_use2 (F : Fr g L s.heap m) (N : News g L s.heap news) (X : (hd.heap_39 w.params).In g) (T : TopAt mg mb mean g) (hv : BgOn Os 2 v d) (hu : BgOn Os 2 u e) (hOs : ∀ p ∈ Os, p ∈ news) (hroom : dp + 3 < recursionLimit) (hun : un + 24 < cLine)
    (h : ∀ t wv h' tk, Fr g L h' m → News g L h' news → IsTup h' t #[.bool (stand 2 d e).1, wv] → WayIs wv (stand 2 d e).2 → Q (.ref t) { s with heap := h', toks := tk }) :
    wpAny (model prog w) { handled := none, depth := dp, frames := fr, guards := gd, units := un } (call (.ref 118) [v, u]) Q E s :=
  have q : ∀ p ∈ Os, s.heap.get? p.1 = some p.2 := fun p hp => (N p (hOs p hp)).1
  stand_all w 2 s.heap mg mb mean v u d e dp un fr gd s Q E (X.keeps F.keep) (T.keeps F.keep) ((hv _ q).ba (Nat.le_refl _)) ((hu _ q).ba (Nat.le_refl _)) (Ext.refl _) hroom (by omega) fun t wv h' tk x a b => h t wv h' tk (F.keeps x) (fun q hq => ⟨x _ _ (N q hq).1, (N q hq).2⟩) a b
theorem due_use {r : Res} {wv : Value} (hw : WayIs wv r.2) (F : Fr g L s.heap m) (N : News g L s.heap news) (X : (hd.heap_39 w.params).In g) (T : TopAt mg mb mean g) (hroom : dp < recursionLimit)
    (ok : ∀ l n h' tk, Fr g L h' m → News g L h' ((l, W.listOf (answers r).toArray n) :: news) → (∀ q ∈ news, q.1 ≠ l) → Q (.ref l) { s with heap := h', toks := tk }) :
    wpAny (model prog w) { handled := none, depth := dp, frames := fr, guards := gd, units := un } (call (.ref 125) [.bool r.1, wv]) Q E s := by
  have fin : ∀ l n h' tk, Ext s.heap h' → h'.get? l = some (W.listOf (answers r).toArray n) → s.heap.get? l = none → Q (.ref l) { s with heap := h', toks := tk } := fun l n h' tk x a b => by
    have o : ∀ p ∈ [(l, W.listOf (answers r).toArray n)], h'.get? p.1 = some p.2 ∧ s.heap.get? p.1 = none := fun p hp => by
      rw [List.mem_singleton] at hp; subst hp; exact ⟨a, b⟩
    refine ok l n h' tk (F.keeps x) (fun p hp => ?_) fun q hq => Ne.symm (fresh_apart N o (l, W.listOf (answers r).toArray n) (List.mem_singleton.mpr rfl) q hq)
    rcases List.mem_cons.mp hp with rfl | hp
    · exact fresh_news F o _ (List.mem_singleton.mpr rfl)
    · exact ⟨x _ _ (N p hp).1, (N p hp).2⟩
  cases hr : r.2 with
  | none =>
    rw [hr] at hw
    cases hw
    exact due_none hr (X.keeps F.keep) (T.keeps F.keep) hroom fin
  | some x =>
    rw [hr] at hw
    obtain ⟨t, rfl⟩ := hw
    exact due_some hr (X.keeps F.keep) (T.keeps F.keep) hroom fin
theorem ans_use {lcn : Str} {lcs : Scope} {la : Addr} {lcd : Value} {lcl : List (Str × Addr)} {tab : Array Value} (hk : lcs.kind = .function) (hdp : dp + 30 < recursionLimit) (hun : un + 300 < cLine) (hlt : @LT.lt Nat _ 127 L) (CH : CodeHd g 131 127)
    (F : Fr g L s.heap m) (N : News g L s.heap ((127, tabObj tab) :: news)) (X : (hd.heap_39 w.params).In g) (T : TopAt mg mb mean g) (hT : TabSt L Os tab) (hv : DrOn g Os 8 2 v d) (hu : DrOn g Os 8 2 u e) (hOs : ∀ p ∈ Os, p ∈ news) (off : ∀ p ∈ news, p.1 ≠ 127)
    (ok : ∀ al n tab' h' tk Oc, Fr g L h' m → News g L h' ((al, W.listOf (answers (stand 2 d e)).toArray n) :: (127, tabObj tab') :: (news ++ Oc)) → (∀ p ∈ Oc, ∀ q ∈ (127, tabObj tab) :: news, p.1 ≠ q.1) → (∀ q ∈ (127, tabObj tab) :: news, q.1 ≠ al) → TabSt L (Os ++ Oc) tab' → Q (.ref al) { s with heap := h', toks := tk }) :
    wpAny (model prog w) (ktrTop dp un gd lcn lcs L la lcd lcl []) (call (.ref 132) [v, u]) Q E s := by
  obtain ⟨oL, es, ep, hL, hd, hes, hlk⟩ := id F.ns
  have hdt : NF oL := fun vs q => by rw [hd] at q; cases q
  have n127 := N (127, tabObj tab) (List.mem_cons_self ..)
  have gL : g.get? L = none := Heap.get?_none_of_le F.above
  have hid : ∀ b o, s.heap.get? b = some o → b ≠ 127 → b ≠ L → (hideAll s.heap [127, L]).get? b = some o := fun b o e q1 q2 => hideAll_get _ e (by simp only [List.mem_cons, List.not_mem_nil, or_false, not_or]; exact ⟨q1, q2⟩)
  have x0 : Ext g (hideAll s.heap [127, L]) := fun b o e => hid b o (F.keep b o e) (fun q => by rw [q, n127.2.2] at e; cases e) fun q => by rw [q, gL] at e; cases e
  have qO : ∀ p ∈ Os, (hideAll s.heap [127, L]).get? p.1 = some p.2 := fun p hp => by
    have z := N p (List.mem_cons_of_mem _ (hOs p hp))
    exact hid _ _ z.1 (off p (hOs p hp)) z.2.1
  have qS : ∀ p ∈ Os, s.heap.get? p.1 = some p.2 := fun p hp => (N p (List.mem_cons_of_mem _ (hOs p hp))).1
  have fin : ∀ al h' tk tab' Oc, Answered s.heap L oL al (answers (stand 2 d e)) h' tab' → (∀ p ∈ Oc, h'.get? p.1 = some p.2 ∧ s.heap.get? p.1 = none) → TabSt L (Os ++ Oc) tab' → Q (.ref al) { s with heap := h', toks := tk } := by
    intro al h' tk tab' Oc Z o hT'
    obtain ⟨sl, hsl⟩ := Z.law
    obtain ⟨n, hal⟩ := Z.list
    have F' : Fr g L h' m := ⟨⟨_, es, ep, hsl, hd, hes, hlk⟩, fun b o e => Z.keep b o (F.keep b o e) (fun q => by rw [q, n127.2.2] at e; cases e) (fun q => by rw [q, gL] at e; cases e), F.above⟩
    have oa : ∀ p ∈ [(al, W.listOf (answers (stand 2 d e)).toArray n)], h'.get? p.1 = some p.2 ∧ s.heap.get? p.1 = none := fun p hp => by
      rw [List.mem_singleton] at hp; subst hp; exact ⟨hal, Z.new⟩
    refine ok al n tab' h' tk Oc F' (fun p hp => ?_) (fresh_apart N o) (fun q hq => Ne.symm (fresh_apart N oa _ (List.mem_singleton.mpr rfl) q hq)) hT'
    rcases List.mem_cons.mp hp with rfl | hp
    · exact fresh_news F oa _ (List.mem_singleton.mpr rfl)
    rcases List.mem_cons.mp hp with rfl | hp
    · exact ⟨Z.tab, n127.2⟩
    rcases List.mem_append.mp hp with hp | hp
    · have z := N p (List.mem_cons_of_mem _ hp)
      exact ⟨Z.keep _ _ z.1 (off p hp) z.2.1, z.2⟩
    · exact fresh_news F o p hp
  rcases hT with rfl | ⟨c1, c2, c3, c4, hF, hC⟩
  · refine answers_first hk hdp hun (fun b o e => of_hideAll _ e) hL (hideAll_none _ (by simp)) hdt hlt n127.1 (hideAll_none _ (by simp)) (CH.keeps x0) (X.keeps x0) (T.keeps x0) (hv _ qO) (hu _ qO) fun al h' tk c1 c2 c3 c4 Z T1 T2 => ?_
    obtain ⟨Oc, o1, o2⟩ := tab_on T1 T2
    exact fin al h' tk _ Oc Z o1 (.inr ⟨c1, c2, c3, c4, fullTab_ok .., fun h q => o2 h fun p hp => q p (List.mem_append_right _ hp)⟩)
  · refine answers_later hk hdp hun (fun b o e => of_hideAll _ e) hL (hideAll_none _ (by simp)) hdt hlt n127.1 hF (hC _ qS) (hideAll_none _ (by simp)) (CH.keeps x0) (X.keeps x0) (T.keeps x0) (hv _ qO) (hu _ qO) fun al h' tk Z T1 => ?_
    exact fin al h' tk _ [] Z (fun p hp => nomatch hp) (.inr ⟨c1, c2, c3, c4, hF, fun h q => hC h fun p hp => q p (List.mem_append_left _ hp)⟩)
end
set_option maxHeartbeats 8000000
def IsNum (_ : Nat) (v : Value) : Prop := ∃ i t, v = .int i t ∧ 0 ≤ i
theorem fmod_num (j : Int) : 0 ≤ j.fmod (10 ^ Int.toNat 9) := by
  rw [Int.fmod_eq_emod_of_nonneg _ (by decide)]
  exact Int.emod_nonneg _ (by decide)
theorem four {ys : List Value} (hl : ys.length = 4) (h : ∀ j (h : j < ys.length), IsNum j ys[j]) : ∃ a b c d ta tb tc td, ys = [.int a ta, .int b tb, .int c tc, .int d td] ∧ 0 ≤ a ∧ 0 ≤ b ∧ 0 ≤ c ∧ 0 ≤ d := by
  match ys, hl, h with
  | [y0, y1, y2, y3], _, h =>
    obtain ⟨a, ta, e0, h0⟩ := h 0 (by simp)
    obtain ⟨b, tb, e1, h1⟩ := h 1 (by simp)
    obtain ⟨c, tc, e2, h2⟩ := h 2 (by simp)
    obtain ⟨d, td, e3, h3⟩ := h 3 (by simp)
    simp at e0 e1 e2 e3
    subst e0 e1 e2 e3
    exact ⟨a, b, c, d, ta, tb, tc, td, rfl, h0, h1, h2, h3⟩
theorem three {b c d : Int} {tb tc td : Tok} (hb : 0 ≤ b) (hc : 0 ≤ c) (hd : 0 ≤ d) {i : Nat} {v : Value} (h : [Value.int b tb, .int c tc, .int d td][i]? = some v) : ∃ q t, v = .int q t ∧ 0 ≤ q := by
  match i, h with
  | 0, h => cases h; exact ⟨_, _, rfl, hb⟩
  | 1, h => cases h; exact ⟨_, _, rfl, hc⟩
  | 2, h => cases h; exact ⟨_, _, rfl, hd⟩
theorem lt4 : ∀ i : Nat, i < 4 → i = 0 ∨ i = 1 ∨ i = 2 ∨ i = 3 := by decide
theorem lt6 : ∀ i : Nat, i < 6 → i = 0 ∨ i = 1 ∨ i = 2 ∨ i = 3 ∨ i = 4 ∨ i = 5 := by decide
theorem lt10 : ∀ i : Nat, i < 10 → i = 0 ∨ i = 1 ∨ i = 2 ∨ i = 3 ∨ i = 4 ∨ i = 5 ∨ i = 6 ∨ i = 7 ∨ i = 8 ∨ i = 9 := by decide
theorem nc {g h : Heap} {L : Addr} {p : Addr × Obj} {r : List (Addr × Obj)} (a : h.get? p.1 = some p.2 ∧ p.1 ≠ L ∧ g.get? p.1 = none) (b : News g L h r) : News g L h (p :: r) := fun q hq => by
  rcases List.mem_cons.mp hq with rfl | hq
  · exact a
  · exact b q hq
theorem oc {I : Addr} {p : Addr × Obj} {r : List (Addr × Obj)} (a : p.1 ≠ I) (b : ∀ q ∈ r, q.1 ≠ I) : ∀ q ∈ p :: r, q.1 ≠ I := fun q hq => by
  rcases List.mem_cons.mp hq with rfl | hq
  · exact a
  · exact b q hq
theorem oa {I : Addr} {r r' : List (Addr × Obj)} (a : ∀ q ∈ r, q.1 ≠ I) (b : ∀ q ∈ r', q.1 ≠ I) : ∀ q ∈ r ++ r', q.1 ≠ I := fun q hq => by
  rcases List.mem_append.mp hq with hq | hq
  · exact a q hq
  · exact b q hq
theorem off1_mem {D : Addr} : ∀ {l : List (Addr × Obj)}, LCg.Off1 D l → ∀ p ∈ l, p.1 ≠ D
  | [], _, _, h => nomatch h
  | _ :: _, x, p, h => by
    rcases List.mem_cons.mp h with rfl | h
    · exact x.1
    · exact off1_mem x.2 p h
/-- a pair of the law's list: a bare thing and a dressed one, of one datum -/
def PairOk (g : Heap) (Os : List (Addr × Obj)) (v : Value) : Prop := ∃ T n a b d, v = .ref T ∧ (T, ({ cls := .type "tuple", data := .seq #[a, b] n } : Obj)) ∈ Os ∧ BgOn Os 2 a d ∧ DrOn g Os 8 2 b d
theorem PairOk.sub {g : Heap} {Os Os' : List (Addr × Obj)} {v : Value} (h : PairOk g Os v) (x : ∀ p ∈ Os, p ∈ Os') : PairOk g Os' v := by
  obtain ⟨T, n, a, b, d, e, hm, h1, h2⟩ := h
  exact ⟨T, n, a, b, d, e, x _ hm, h1.sub x, h2.sub x⟩
def PairsOk (g : Heap) (Os : List (Addr × Obj)) (ps : List Value) : Prop := ∀ v ∈ ps, PairOk g Os v
/-- the first loop, between its turns -/
structure StP (g : Heap) (L pl src nl : Addr) (oS oNum oD oT : Obj) (ps : List Value) (n : Nat) (oN : Obj) (Os : List (Addr × Obj)) (i : Nat) (m : Str → Option Value) (news : List (Addr × Obj)) : Prop where
  led : news = (pl, W.listOf (List.toArray ps) n) :: (src, oS) :: (nl, oNum) :: (L + 1 + 1 + 1, oN) :: (L + 1 + 1 + 1 + 1, oD) :: (L + 1 + 1 + 1 + 1 + 1, oT) :: (127, tabObj #[]) :: Os
  len : ps.length = i
  cell : ∃ cv, oN.data = .cell cv
  ok : PairsOk g Os ps
  numbers : m (Str.ofString "numbers") = some (.ref nl)
  pairs : m (Str.ofString "pairs") = some (.ref pl)
  off1 : ∀ p ∈ Os, p.1 ≠ pl
  off2 : ∀ p ∈ Os, p.1 ≠ src
  off3 : ∀ p ∈ Os, p.1 ≠ nl
  off4 : ∀ p ∈ Os, p.1 ≠ L + 1 + 1 + 1
  off5 : ∀ p ∈ Os, p.1 ≠ L + 1 + 1 + 1 + 1
  off6 : ∀ p ∈ Os, p.1 ≠ L + 1 + 1 + 1 + 1 + 1
  off7 : ∀ p ∈ Os, p.1 ≠ 127
def JP (g : Heap) (L pl src nl : Addr) (oS oNum oD oT : Obj) (i : Nat) (m : Str → Option Value) (news : List (Addr × Obj)) : Prop := ∃ ps n oN Os, StP g L pl src nl oS oNum oD oT ps n oN Os i m news
/-- the addresses of the first loop lie apart -/
structure Apt (L pl src nl : Nat) : Prop where
  a1 : 127 < L
  a2 : L + 5 < pl
  a3 : pl < src
  a4 : nl < pl
  a5 : nl ≠ L + 1 + 1 + 1
  a6 : nl ≠ L + 1 + 1 + 1 + 1
  a7 : nl ≠ L + 1 + 1 + 1 + 1 + 1
  a8 : nl ≠ 127
section
variable {prog : Program} {w : World} {A : Around} {E : Value → Shared → Prop} {g : Heap} {env : Env} {target : Expr} {body : List Stmt} {Q : Flow → Shared → Prop} {s : Shared}
theorem start_P {L src pl nl bl : Addr} {n1 n2 : Nat} {vs : List Value} {oNum oB oT oD oN oB2 oSc : Obj} {m : Str → Option Value} (hL : env.locals = L) (hh : A.handled = none) (hcell : ∃ cv, oN.data = .cell cv) (F : Fr g L s.heap m)
    (N : News g L s.heap [(src, W.listOf (List.toArray vs) n1), (pl, W.listOf (List.toArray []) n2), (nl, oNum), (bl, oB), (L + 1 + 1 + 1 + 1 + 1, oT), (L + 1 + 1 + 1 + 1, oD), (L + 1 + 1 + 1, oN), (L + 1 + 1, oB2), (L + 1, oSc), (127, tabObj #[])])
    (hm1 : m (Str.ofString "numbers") = some (.ref nl)) (hm2 : m (Str.ofString "pairs") = some (.ref pl))
    (turn : ∀ I it v q tq ps n oN Os i m h tk, i < vs.length → v = .int q tq → v ∈ vs → StP g L pl src nl (W.listOf (List.toArray vs) n1) oNum oD oT ps n oN Os i m ((pl, W.listOf (List.toArray ps) n) :: (src, W.listOf (List.toArray vs) n1) :: (nl, oNum) :: (L + 1 + 1 + 1, oN) :: (L + 1 + 1 + 1 + 1, oD) :: (L + 1 + 1 + 1 + 1 + 1, oT) :: (127, tabObj #[]) :: Os) →
      (∀ p ∈ (pl, W.listOf (List.toArray ps) n) :: (src, W.listOf (List.toArray vs) n1) :: (nl, oNum) :: (L + 1 + 1 + 1, oN) :: (L + 1 + 1 + 1 + 1, oD) :: (L + 1 + 1 + 1 + 1 + 1, oT) :: (127, tabObj #[]) :: Os, p.1 ≠ I) → it.cls = .type "list_iterator" → Fr g L h m →
      News g L h ((I, it) :: (pl, W.listOf (List.toArray ps) n) :: (src, W.listOf (List.toArray vs) n1) :: (nl, oNum) :: (L + 1 + 1 + 1, oN) :: (L + 1 + 1 + 1 + 1, oD) :: (L + 1 + 1 + 1 + 1 + 1, oT) :: (127, tabObj #[]) :: Os) →
      wpAny (model prog w) A (assign target env (.int q tq)) (fun _ s₂ => wpAny (model prog w) A (execs body env) (LoopEnd g L I it (JP g L pl src nl (W.listOf (List.toArray vs) n1) oNum oD oT (i + 1)) { s with heap := h, toks := tk }) E s₂) E { s with heap := h, toks := tk })
    (hv : ∀ v ∈ vs, ∃ q t, v = .int q t)
    (done : ∀ h tk m ps n oN Os, Fr g L h m → News g L h ((pl, W.listOf (List.toArray ps) n) :: (L + 1 + 1 + 1 + 1, oD) :: (L + 1 + 1 + 1 + 1 + 1, oT) :: (127, tabObj #[]) :: Os) → StP g L pl src nl (W.listOf (List.toArray vs) n1) oNum oD oT ps n oN Os vs.length m ((pl, W.listOf (List.toArray ps) n) :: (src, W.listOf (List.toArray vs) n1) :: (nl, oNum) :: (L + 1 + 1 + 1, oN) :: (L + 1 + 1 + 1 + 1, oD) :: (L + 1 + 1 + 1 + 1 + 1, oT) :: (127, tabObj #[]) :: Os) → Q .next { s with heap := h, toks := tk }) :
    wpAny (model prog w) A (pyIter (.ref src)) (fun it s₂ => TurnsAt prog w A g env target body Q E it s₂) E s := by
  subst hL
  refine loop_J (lo := W.listOf (List.toArray vs) n1) (JP g env.locals pl src nl (W.listOf (List.toArray vs) n1) oNum oD oT) hh F (nc (N _ (by k_mem)) (nc (N _ (by k_mem)) (nc (N _ (by k_mem)) (nc (N _ (by k_mem)) (nc (N _ (by k_mem)) (nc (N _ (by k_mem)) (nc (N _ (by k_mem)) News.nil))))))) (by k_mem) rfl rfl
    ⟨[], n2, oN, [], rfl, rfl, hcell, (fun v h => nomatch h), hm1, hm2, (fun p h => nomatch h), (fun p h => nomatch h), (fun p h => nomatch h), (fun p h => nomatch h), (fun p h => nomatch h), (fun p h => nomatch h), fun p h => nomatch h⟩ (fun i m news ⟨ps, n, oN, Os, x⟩ => by rw [x.led]; k_mem) (fun I i v m news it h tk hv1 ⟨ps, n, oN, Os, x⟩ oI hit F' N' => ?_) fun h tk m news F' N' ⟨ps, n, oN, Os, x⟩ => ?_
  · have e := x.led
    subst e
    have hmem : v ∈ vs := List.mem_of_getElem? hv1
    obtain ⟨q, t, rfl⟩ := hv v hmem
    exact turn I it _ q t ps n oN Os i m h tk (List.getElem?_eq_some_iff.mp hv1).1 rfl hmem x oI hit F' N'
  · have e := x.led
    subst e
    exact done h tk m ps n oN Os F' (nc (N' _ (by k_mem)) (nc (N' _ (by k_mem)) (nc (N' _ (by k_mem)) (nc (N' _ (by k_mem)) fun q hq => N' q (by repeat (first | exact hq | apply List.mem_cons_of_mem)))))) x
theorem end_P {L pl src nl I T fl : Addr} {it oS oNum oD oT oN oF : Obj} {ps : List Value} {n i k tk : Nat} {Os Ob Od : List (Addr × Obj)} {m : Str → Option Value} {h : Heap} {bv du : Value} {bd : D} {s : Shared}
    (F : Fr g L h m) (N : News g L h ((T, ({ cls := .type "tuple", data := .seq #[bv, du] k } : Obj)) :: (fl, oF) :: (I, it) :: (pl, W.listOf (ps.toArray.push (.ref T)) n) :: (src, oS) :: (nl, oNum) :: (L + 1 + 1 + 1, oN) :: (L + 1 + 1 + 1 + 1, oD) :: (L + 1 + 1 + 1 + 1 + 1, oT) :: (127, tabObj #[]) :: (Os ++ Ob ++ Od)))
    (hlen : ps.length = i) (hcell : ∃ cv, oN.data = .cell cv) (hps : PairsOk g Os ps) (hb : BgOn Ob 2 bv bd) (hd : DrOn g Od 8 2 du bd) (m1 : m (Str.ofString "numbers") = some (.ref nl)) (m2 : m (Str.ofString "pairs") = some (.ref pl))
    (t0 : T ≠ I) (t1 : T ≠ pl) (t2 : T ≠ src) (t3 : T ≠ nl) (t4 : T ≠ L + 1 + 1 + 1) (t5 : T ≠ L + 1 + 1 + 1 + 1) (t6 : T ≠ L + 1 + 1 + 1 + 1 + 1) (t7 : T ≠ 127)
    (i1 : pl ≠ I) (i2 : src ≠ I) (i3 : nl ≠ I) (i4 : L + 1 + 1 + 1 ≠ I) (i5 : L + 1 + 1 + 1 + 1 ≠ I) (i6 : L + 1 + 1 + 1 + 1 + 1 ≠ I) (i7 : 127 ≠ I)
    (g0 : ∀ q ∈ Os ++ Ob ++ Od, q.1 ≠ I) (g1 : ∀ q ∈ Os ++ Ob ++ Od, q.1 ≠ pl) (g2 : ∀ q ∈ Os ++ Ob ++ Od, q.1 ≠ src) (g3 : ∀ q ∈ Os ++ Ob ++ Od, q.1 ≠ nl) (g4 : ∀ q ∈ Os ++ Ob ++ Od, q.1 ≠ L + 1 + 1 + 1) (g5 : ∀ q ∈ Os ++ Ob ++ Od, q.1 ≠ L + 1 + 1 + 1 + 1) (g6 : ∀ q ∈ Os ++ Ob ++ Od, q.1 ≠ L + 1 + 1 + 1 + 1 + 1) (g7 : ∀ q ∈ Os ++ Ob ++ Od, q.1 ≠ 127) :
    LoopEnd g L I it (JP g L pl src nl oS oNum oD oT (i + 1)) s .next { s with heap := h, toks := tk } := by
  rw [List.push_toArray] at N
  refine ⟨h, tk, m, _, rfl, F, nc (N _ (by k_mem)) (nc (N _ (by k_mem)) (nc (N _ (by k_mem)) (nc (N _ (by k_mem)) (nc (N _ (by k_mem)) (nc (N _ (by k_mem)) (nc (N _ (by k_mem)) (nc (N _ (by k_mem)) (nc (N _ (by k_mem)) (fun q hq => N q (by repeat (first | exact hq | apply List.mem_cons_of_mem))))))))))),
    oc i1 (oc i2 (oc i3 (oc i4 (oc i5 (oc i6 (oc i7 (oc t0 g0))))))), ps ++ [.ref T], n, oN, (T, ({ cls := .type "tuple", data := .seq #[bv, du] k } : Obj)) :: (Os ++ Ob ++ Od), rfl, by rw [List.length_append, hlen]; rfl, hcell, fun v hv => ?_, m1, m2, oc t1 g1, oc t2 g2, oc t3 g3, oc t4 g4, oc t5 g5, oc t6 g6, oc t7 g7⟩
  rcases List.mem_append.mp hv with hv | hv
  · exact (hps v hv).sub fun p hp => List.mem_cons_of_mem _ (List.mem_append_left _ (List.mem_append_left _ hp))
  · rw [List.mem_singleton] at hv
    subst hv
    exact ⟨T, k, bv, du, bd, rfl, List.mem_cons_self .., hb.sub fun p hp => List.mem_cons_of_mem _ (List.mem_append_left _ (List.mem_append_right _ hp)), hd.sub fun p hp => List.mem_cons_of_mem _ (List.mem_append_right _ hp)⟩
end
set_option maxHeartbeats 8000000
def IsTrue (_ : Nat) (v : Value) : Prop := v = .bool true
theorem bools_true : ∀ {us : List Value}, (∀ j (h : j < us.length), IsTrue j us[j]) → LSm.BoolsAre us (us.map fun _ => true)
  | [], _ => .nil
  | u :: us, h => by
    have h0 : u = .bool true := h 0 (by simp)
    subst h0
    exact .cons true (bools_true fun j hj => h (j + 1) (by simpa using hj))
theorem all_ids : ∀ us : List Value, (us.map fun _ => true).all id = true
  | [] => rfl
  | _ :: us => by simp [all_ids us]
theorem plain_optB (x : Option Bool) : plainIs (optB x) (optB x) = true := by
  cases x with
  | none => rfl
  | some b => cases b <;> rfl
theorem plain_bool (b : Bool) : plainIs (.bool b) (.bool b) = true := by cases b <;> rfl
section
variable {prog : Program} {w : World} {A : Around} {E : Value → Shared → Prop} {g : Heap} {env : Env} {target : Expr} {body : List Stmt} {Q : Flow → Shared → Prop} {s : Shared}
theorem all_true {L l : Addr} {m : Str → Option Value} {news : List (Addr × Obj)} {us : List Value} {n : Nat} {Q : Value → Shared → Prop} (F : Fr g L s.heap m) (N : News g L s.heap news) (hh : A.handled = none) (hm : (l, W.listOf (List.toArray us) n) ∈ news) (ht : ∀ j (h : j < us.length), IsTrue j us[j])
    (h : ∀ h' tk, Fr g L h' m → News g L h' news → Q (.bool true) { s with heap := h', toks := tk }) : wpAny (model prog w) A (call (.builtin "all") [.ref l]) Q E s :=
  LSm.all_bools F N hh ⟨_, (N _ hm).1, rfl, n, rfl⟩ (bools_true ht) fun h' tk F' N' => by rw [all_ids]; exact h h' tk F' N'
theorem is_opt {x : Option Bool} {M : Model} {Q : Value → Shared → Prop} (h : Q (.bool true) s) : wpAny M A (compareOp .Is (optB x) (optB x)) Q E s := wpAny_is_self (plain_optB x) h
theorem is_bool {b : Bool} {M : Model} {Q : Value → Shared → Prop} (h : Q (.bool true) s) : wpAny M A (compareOp .Is (.bool b) (.bool b)) Q E s := wpAny_is_self (plain_bool b) h

/-- the second loop, between its turns -/
structure StQ (g : Heap) (L pl : Addr) (ps : List Value) (n : Nat) (tab : Array Value) (oD oT : Obj) (Os : List (Addr × Obj)) (m : Str → Option Value) (news : List (Addr × Obj)) : Prop where
  led : news = (pl, W.listOf (List.toArray ps) n) :: (L + 1 + 1 + 1 + 1, oD) :: (L + 1 + 1 + 1 + 1 + 1, oT) :: (127, tabObj tab) :: Os
  cd : ∃ cv, oD.data = .cell cv
  ct : ∃ cv, oT.data = .cell cv
  ok : PairsOk g Os ps
  pairs : m (Str.ofString "pairs") = some (.ref pl)
  off1 : ∀ p ∈ Os, p.1 ≠ pl
  off2 : ∀ p ∈ Os, p.1 ≠ L + 1 + 1 + 1 + 1
  off3 : ∀ p ∈ Os, p.1 ≠ L + 1 + 1 + 1 + 1 + 1
  off4 : ∀ p ∈ Os, p.1 ≠ 127
  tb : TabSt L Os tab
def JQ (g : Heap) (L pl : Addr) (ps : List Value) (n : Nat) (_ : Nat) (m : Str → Option Value) (news : List (Addr × Obj)) : Prop := ∃ tab oD oT Os, StQ g L pl ps n tab oD oT Os m news
theorem start_Q {L pl : Addr} {n : Nat} {ps : List Value} {tab : Array Value} {oT oD : Obj} {Os : List (Addr × Obj)} {m : Str → Option Value} {news : List (Addr × Obj)} (hL : env.locals = L) (hh : A.handled = none) (F : Fr g L s.heap m)
    (N : News g L s.heap news) (st : StQ g L pl ps n tab oD oT Os m news)
    (turn : ∀ I it v tab oD oT Os m h tk, v ∈ ps → StQ g L pl ps n tab oD oT Os m ((pl, W.listOf (List.toArray ps) n) :: (L + 1 + 1 + 1 + 1, oD) :: (L + 1 + 1 + 1 + 1 + 1, oT) :: (127, tabObj tab) :: Os) →
      (∀ p ∈ (pl, W.listOf (List.toArray ps) n) :: (L + 1 + 1 + 1 + 1, oD) :: (L + 1 + 1 + 1 + 1 + 1, oT) :: (127, tabObj tab) :: Os, p.1 ≠ I) → it.cls = .type "list_iterator" → Fr g L h m →
      News g L h ((I, it) :: (pl, W.listOf (List.toArray ps) n) :: (L + 1 + 1 + 1 + 1, oD) :: (L + 1 + 1 + 1 + 1 + 1, oT) :: (127, tabObj tab) :: Os) →
      wpAny (model prog w) A (assign target env v) (fun _ s₂ => wpAny (model prog w) A (execs body env) (LoopEnd g L I it (JQ g L pl ps n 0) { s with heap := h, toks := tk }) E s₂) E { s with heap := h, toks := tk })
    (done : ∀ h tk m tab, Fr g L h m → News g L h [(127, tabObj tab)] → Q .next { s with heap := h, toks := tk }) :
    wpAny (model prog w) A (pyIter (.ref pl)) (fun it s₂ => TurnsAt prog w A g env target body Q E it s₂) E s := by
  subst hL
  have e := st.led
  subst e
  refine loop_J (lo := W.listOf (List.toArray ps) n) (JQ g env.locals pl ps n) hh F N (by k_mem) rfl rfl ⟨_, _, _, _, st⟩ (fun i m news ⟨tab, oD, oT, Os, x⟩ => by rw [x.led]; k_mem) (fun I i v m news it h tk hv1 ⟨tab, oD, oT, Os, x⟩ oI hit F' N' => ?_) fun h tk m news F' N' ⟨tab, oD, oT, Os, x⟩ => done h tk m tab F' (nc (N' _ (by rw [x.led]; k_mem)) News.nil)
  have e := x.led
  subst e
  exact turn I it v tab oD oT Os m h tk (List.mem_of_getElem? hv1) x oI hit F' N'

/-- the inner loop, between its turns -/
structure StR (g : Heap) (L pl I : Addr) (ps : List Value) (n : Nat) (it : Obj) (a b : Value) (tab : Array Value) (oD oT : Obj) (Os : List (Addr × Obj)) (m : Str → Option Value) (news : List (Addr × Obj)) : Prop where
  led : news = (I, it) :: (pl, W.listOf (List.toArray ps) n) :: (L + 1 + 1 + 1 + 1, oD) :: (L + 1 + 1 + 1 + 1 + 1, oT) :: (127, tabObj tab) :: Os
  core : StQ g L pl ps n tab oD oT Os m ((pl, W.listOf (List.toArray ps) n) :: (L + 1 + 1 + 1 + 1, oD) :: (L + 1 + 1 + 1 + 1 + 1, oT) :: (127, tabObj tab) :: Os)
  one : m (Str.ofString "one") = some a
  left : m (Str.ofString "left") = some b
  off0 : ∀ p ∈ Os, p.1 ≠ I
  bare : ∃ d, BgOn Os 2 a d ∧ DrOn g Os 8 2 b d
def JR (g : Heap) (L pl I : Addr) (ps : List Value) (n : Nat) (it : Obj) (a b : Value) (_ : Nat) (m : Str → Option Value) (news : List (Addr × Obj)) : Prop := ∃ tab oD oT Os, StR g L pl I ps n it a b tab oD oT Os m news
theorem start_R {L pl I : Addr} {it : Obj} {a b : Value} {n : Nat} {ps : List Value} {tab : Array Value} {oT oD : Obj} {Os : List (Addr × Obj)} {m : Str → Option Value} {news : List (Addr × Obj)} (hL : env.locals = L) (hh : A.handled = none) (F : Fr g L s.heap m)
    (N : News g L s.heap news) (st : StR g L pl I ps n it a b tab oD oT Os m news)
    (turn : ∀ K kt v tab oD oT Os m h tk, v ∈ ps → StR g L pl I ps n it a b tab oD oT Os m ((I, it) :: (pl, W.listOf (List.toArray ps) n) :: (L + 1 + 1 + 1 + 1, oD) :: (L + 1 + 1 + 1 + 1 + 1, oT) :: (127, tabObj tab) :: Os) →
      (∀ p ∈ (I, it) :: (pl, W.listOf (List.toArray ps) n) :: (L + 1 + 1 + 1 + 1, oD) :: (L + 1 + 1 + 1 + 1 + 1, oT) :: (127, tabObj tab) :: Os, p.1 ≠ K) → kt.cls = .type "list_iterator" → Fr g L h m →
      News g L h ((K, kt) :: (I, it) :: (pl, W.listOf (List.toArray ps) n) :: (L + 1 + 1 + 1 + 1, oD) :: (L + 1 + 1 + 1 + 1 + 1, oT) :: (127, tabObj tab) :: Os) →
      wpAny (model prog w) A (assign target env v) (fun _ s₂ => wpAny (model prog w) A (execs body env) (LoopEnd g L K kt (JR g L pl I ps n it a b 0) { s with heap := h, toks := tk }) E s₂) E { s with heap := h, toks := tk })
    (done : ∀ h tk m tab oD oT Os, Fr g L h m → News g L h ((I, it) :: (pl, W.listOf (List.toArray ps) n) :: (L + 1 + 1 + 1 + 1, oD) :: (L + 1 + 1 + 1 + 1 + 1, oT) :: (127, tabObj tab) :: Os) →
      StR g L pl I ps n it a b tab oD oT Os m ((I, it) :: (pl, W.listOf (List.toArray ps) n) :: (L + 1 + 1 + 1 + 1, oD) :: (L + 1 + 1 + 1 + 1 + 1, oT) :: (127, tabObj tab) :: Os) → Q .next { s with heap := h, toks := tk }) :
    wpAny (model prog w) A (pyIter (.ref pl)) (fun it s₂ => TurnsAt prog w A g env target body Q E it s₂) E s := by
  subst hL
  have e := st.led
  subst e
  refine loop_J (lo := W.listOf (List.toArray ps) n) (JR g env.locals pl I ps n it a b) hh F N (by k_mem) rfl rfl ⟨_, _, _, _, st⟩ (fun i m news ⟨tab, oD, oT, Os, x⟩ => by rw [x.led]; k_mem) (fun K i v m news kt h tk hv1 ⟨tab, oD, oT, Os, x⟩ oI hit F' N' => ?_) fun h tk m news F' N' ⟨tab, oD, oT, Os, x⟩ => ?_
  · have e := x.led
    subst e
    exact turn K kt v tab oD oT Os m h tk (List.mem_of_getElem? hv1) x oI hit F' N'
  · have e := x.led
    subst e
    exact done h tk m tab oD oT Os F' N' x
theorem end_R {L pl I K : Addr} {it kt oD oT : Obj} {a b : Value} {n : Nat} {ps : List Value} {tab : Array Value} {Os Oc : List (Addr × Obj)} {m : Str → Option Value} {h : Heap} {tk : Nat} {d : D}
    (F : Fr g L h m) (N : News g L h ((K, kt) :: (I, it) :: (pl, W.listOf (List.toArray ps) n) :: (L + 1 + 1 + 1 + 1, oD) :: (L + 1 + 1 + 1 + 1 + 1, oT) :: (127, tabObj tab) :: (Os ++ Oc)))
    (hcd : ∃ cv, oD.data = .cell cv) (hct : ∃ cv, oT.data = .cell cv) (hps : PairsOk g Os ps) (m0 : m (Str.ofString "pairs") = some (.ref pl)) (m1 : m (Str.ofString "one") = some a) (m2 : m (Str.ofString "left") = some b) (ha : BgOn Os 2 a d) (hb : DrOn g Os 8 2 b d) (hT : TabSt L (Os ++ Oc) tab)
    (k0 : I ≠ K) (k1 : pl ≠ K) (k2 : L + 1 + 1 + 1 + 1 ≠ K) (k3 : L + 1 + 1 + 1 + 1 + 1 ≠ K) (k4 : 127 ≠ K)
    (gk : ∀ q ∈ Os ++ Oc, q.1 ≠ K) (g0 : ∀ q ∈ Os ++ Oc, q.1 ≠ I) (g1 : ∀ q ∈ Os ++ Oc, q.1 ≠ pl) (g2 : ∀ q ∈ Os ++ Oc, q.1 ≠ L + 1 + 1 + 1 + 1) (g3 : ∀ q ∈ Os ++ Oc, q.1 ≠ L + 1 + 1 + 1 + 1 + 1) (g4 : ∀ q ∈ Os ++ Oc, q.1 ≠ 127) :
    LoopEnd g L K kt (JR g L pl I ps n it a b 0) s .next { s with heap := h, toks := tk } :=
  have sb : ∀ p ∈ Os, p ∈ Os ++ Oc := fun _ hp => List.mem_append_left _ hp
  ⟨h, tk, m, _, rfl, F, N, oc k0 (oc k1 (oc k2 (oc k3 (oc k4 gk)))), tab, oD, oT, Os ++ Oc, rfl, ⟨rfl, hcd, hct, fun v hv => (hps v hv).sub sb, m0, g1, g2, g3, g4, hT⟩, m1, m2, g0, d, ha.sub sb, hb.sub sb⟩
theorem end_Q {L pl I : Addr} {it oD oT : Obj} {a b : Value} {n : Nat} {ps : List Value} {tab : Array Value} {Os : List (Addr × Obj)} {m : Str → Option Value} {h : Heap} {tk : Nat}
    (F : Fr g L h m) (N : News g L h ((I, it) :: (pl, W.listOf (List.toArray ps) n) :: (L + 1 + 1 + 1 + 1, oD) :: (L + 1 + 1 + 1 + 1 + 1, oT) :: (127, tabObj tab) :: Os))
    (x : StR g L pl I ps n it a b tab oD oT Os m ((I, it) :: (pl, W.listOf (List.toArray ps) n) :: (L + 1 + 1 + 1 + 1, oD) :: (L + 1 + 1 + 1 + 1 + 1, oT) :: (127, tabObj tab) :: Os))
    (k1 : pl ≠ I) (k2 : L + 1 + 1 + 1 + 1 ≠ I) (k3 : L + 1 + 1 + 1 + 1 + 1 ≠ I) (k4 : 127 ≠ I) :
    LoopEnd g L I it (JQ g L pl ps n 0) s .next { s with heap := h, toks := tk } :=
  ⟨h, tk, m, _, rfl, F, N, oc k1 (oc k2 (oc k3 (oc k4 x.off0))), tab, oD, oT, Os, x.core⟩
end
set_option maxHeartbeats 8000000
local macro_rules | `(tactic| k_all) => `(tactic| assumption)
theorem law_holds : PySem.Challenge.rw_rs0255_01.Holds := hd (by
  k_with_none
  k_with "ne" => first
      | with_reducible assumption
      | (refine Ne.symm ?_; with_reducible assumption)
      | exact Nat.ne_of_lt (And.left (by with_reducible assumption))
      | exact Nat.ne_of_gt (And.left (by with_reducible assumption))
      | exact Nat.ne_of_lt (And.left (And.right (by with_reducible assumption)))
      | exact Nat.ne_of_gt (And.left (And.right (by with_reducible assumption)))
      | exact Nat.ne_of_lt (And.right (by with_reducible assumption))
      | exact Nat.ne_of_gt (And.right (by with_reducible assumption))
      | exact Nat.ne_of_lt (And.left (And.right (And.right (by with_reducible assumption))))
      | exact Nat.ne_of_gt (And.left (And.right (And.right (by with_reducible assumption))))
      | exact Nat.ne_of_lt (And.right (And.right (by with_reducible assumption)))
      | exact Nat.ne_of_gt (And.right (And.right (by with_reducible assumption)))
      | exact Nat.ne_of_lt (And.left (And.right (And.right (And.right (by with_reducible assumption)))))
      | exact Nat.ne_of_gt (And.left (And.right (And.right (And.right (by with_reducible assumption)))))
      | exact Nat.ne_of_lt (And.right (And.right (And.right (by with_reducible assumption))))
      | exact Nat.ne_of_gt (And.right (And.right (And.right (by with_reducible assumption))))
      | exact Nat.ne_of_lt (And.left (And.right (And.right (And.right (And.right (by with_reducible assumption))))))
      | exact Nat.ne_of_gt (And.left (And.right (And.right (And.right (And.right (by with_reducible assumption))))))
      | exact Nat.ne_of_lt (And.right (And.right (And.right (And.right (by with_reducible assumption)))))
      | exact Nat.ne_of_gt (And.right (And.right (And.right (And.right (by with_reducible assumption)))))
      | exact Nat.ne_of_lt (And.left (And.right (And.right (And.right (And.right (And.right (by with_reducible assumption)))))))
      | exact Nat.ne_of_gt (And.left (And.right (And.right (And.right (And.right (And.right (by with_reducible assumption)))))))
      | exact Nat.ne_of_lt (And.right (And.right (And.right (And.right (And.right (by with_reducible assumption))))))
      | exact Nat.ne_of_gt (And.right (And.right (And.right (And.right (And.right (by with_reducible assumption))))))
      | exact Nat.ne_of_lt (And.left (And.right (And.right (And.right (And.right (And.right (And.right (by with_reducible assumption))))))))
      | exact Nat.ne_of_gt (And.left (And.right (And.right (And.right (And.right (And.right (And.right (by with_reducible assumption))))))))
      | exact Nat.ne_of_lt (And.right (And.right (And.right (And.right (And.right (And.right (by with_reducible assumption)))))))
      | exact Nat.ne_of_gt (And.right (And.right (And.right (And.right (And.right (And.right (by with_reducible assumption)))))))
      | exact Nat.ne_of_lt (And.left (And.right (And.right (And.right (And.right (And.right (And.right (And.right (by with_reducible assumption)))))))))
      | exact Nat.ne_of_gt (And.left (And.right (And.right (And.right (And.right (And.right (And.right (And.right (by with_reducible assumption)))))))))
      | exact Nat.ne_of_lt (And.right (And.right (And.right (And.right (And.right (And.right (And.right (by with_reducible assumption))))))))
      | exact Nat.ne_of_gt (And.right (And.right (And.right (And.right (And.right (And.right (And.right (by with_reducible assumption))))))))
      | exact Nat.ne_of_lt (And.left (And.right (And.right (And.right (And.right (And.right (And.right (And.right (And.right (by with_reducible assumption))))))))))
      | exact Nat.ne_of_gt (And.left (And.right (And.right (And.right (And.right (And.right (And.right (And.right (And.right (by with_reducible assumption))))))))))
      | exact Nat.ne_of_lt (And.right (And.right (And.right (And.right (And.right (And.right (And.right (And.right (by with_reducible assumption)))))))))
      | exact Nat.ne_of_gt (And.right (And.right (And.right (And.right (And.right (And.right (And.right (And.right (by with_reducible assumption)))))))))
      | exact Nat.ne_of_lt (And.left (And.right (And.right (And.right (And.right (And.right (And.right (And.right (And.right (And.right (by with_reducible assumption)))))))))))
      | exact Nat.ne_of_gt (And.left (And.right (And.right (And.right (And.right (And.right (And.right (And.right (And.right (And.right (by with_reducible assumption)))))))))))
      | exact Nat.ne_of_lt (And.right (And.right (And.right (And.right (And.right (And.right (And.right (And.right (And.right (by with_reducible assumption))))))))))
      | exact Nat.ne_of_gt (And.right (And.right (And.right (And.right (And.right (And.right (And.right (And.right (And.right (by with_reducible assumption))))))))))
      | exact Nat.ne_of_lt (And.left (And.right (And.right (And.right (And.right (And.right (And.right (And.right (And.right (And.right (And.right (by with_reducible assumption))))))))))))
      | exact Nat.ne_of_gt (And.left (And.right (And.right (And.right (And.right (And.right (And.right (And.right (And.right (And.right (And.right (by with_reducible assumption))))))))))))
      | exact Nat.ne_of_lt (And.right (And.right (And.right (And.right (And.right (And.right (And.right (And.right (And.right (And.right (by with_reducible assumption)))))))))))
      | exact Nat.ne_of_gt (And.right (And.right (And.right (And.right (And.right (And.right (And.right (And.right (And.right (And.right (by with_reducible assumption)))))))))))
      | exact Nat.ne_of_lt (And.left (And.right (And.right (And.right (And.right (And.right (And.right (And.right (And.right (And.right (And.right (And.right (by with_reducible assumption)))))))))))))
      | exact Nat.ne_of_gt (And.left (And.right (And.right (And.right (And.right (And.right (And.right (And.right (And.right (And.right (And.right (And.right (by with_reducible assumption)))))))))))))
      | exact Nat.ne_of_lt (And.right (And.right (And.right (And.right (And.right (And.right (And.right (And.right (And.right (And.right (And.right (by with_reducible assumption))))))))))))
      | exact Nat.ne_of_gt (And.right (And.right (And.right (And.right (And.right (And.right (And.right (And.right (And.right (And.right (And.right (by with_reducible assumption))))))))))))
      | exact Nat.ne_of_lt (And.left (And.right (And.right (And.right (And.right (And.right (And.right (And.right (And.right (And.right (And.right (And.right (And.right (by with_reducible assumption))))))))))))))
      | exact Nat.ne_of_gt (And.left (And.right (And.right (And.right (And.right (And.right (And.right (And.right (And.right (And.right (And.right (And.right (And.right (by with_reducible assumption))))))))))))))
      | exact Nat.ne_of_lt (And.right (And.right (And.right (And.right (And.right (And.right (And.right (And.right (And.right (And.right (And.right (And.right (by with_reducible assumption)))))))))))))
      | exact Nat.ne_of_gt (And.right (And.right (And.right (And.right (And.right (And.right (And.right (And.right (And.right (And.right (And.right (And.right (by with_reducible assumption)))))))))))))
      | (refine' Nat.ne_of_gt (Nat.lt_trans ?a ?b); (case b => with_reducible assumption); (case a => exact (by with_reducible assumption)))
      | (refine' Nat.ne_of_lt (Nat.lt_trans ?a ?b); (case b => with_reducible assumption); (case a => exact (by with_reducible assumption)))
      | (refine' Nat.ne_of_gt (Nat.lt_trans ?a ?b); (case b => with_reducible assumption); (case a => exact (And.left (by with_reducible assumption))))
      | (refine' Nat.ne_of_lt (Nat.lt_trans ?a ?b); (case b => with_reducible assumption); (case a => exact (And.left (by with_reducible assumption))))
      | (refine' Nat.ne_of_gt (Nat.lt_trans ?a ?b); (case b => with_reducible assumption); (case a => exact (And.left (And.right (by with_reducible assumption)))))
      | (refine' Nat.ne_of_lt (Nat.lt_trans ?a ?b); (case b => with_reducible assumption); (case a => exact (And.left (And.right (by with_reducible assumption)))))
      | (refine' Nat.ne_of_gt (Nat.lt_trans ?a ?b); (case b => with_reducible assumption); (case a => exact (And.right (by with_reducible assumption))))
      | (refine' Nat.ne_of_lt (Nat.lt_trans ?a ?b); (case b => with_reducible assumption); (case a => exact (And.right (by with_reducible assumption))))
      | (refine' Nat.ne_of_gt (Nat.lt_trans ?a ?b); (case b => with_reducible assumption); (case a => exact (And.left (And.right (And.right (by with_reducible assumption))))))
      | (refine' Nat.ne_of_lt (Nat.lt_trans ?a ?b); (case b => with_reducible assumption); (case a => exact (And.left (And.right (And.right (by with_reducible assumption))))))
      | (refine' Nat.ne_of_gt (Nat.lt_trans ?a ?b); (case b => with_reducible assumption); (case a => exact (And.right (And.right (by with_reducible assumption)))))
      | (refine' Nat.ne_of_lt (Nat.lt_trans ?a ?b); (case b => with_reducible assumption); (case a => exact (And.right (And.right (by with_reducible assumption)))))
      | (refine' Nat.ne_of_gt (Nat.lt_trans ?a ?b); (case b => with_reducible assumption); (case a => exact (And.left (And.right (And.right (And.right (by with_reducible assumption)))))))
      | (refine' Nat.ne_of_lt (Nat.lt_trans ?a ?b); (case b => with_reducible assumption); (case a => exact (And.left (And.right (And.right (And.right (by with_reducible assumption)))))))
      | (refine' Nat.ne_of_gt (Nat.lt_trans ?a ?b); (case b => with_reducible assumption); (case a => exact (And.right (And.right (And.right (by with_reducible assumption))))))
      | (refine' Nat.ne_of_lt (Nat.lt_trans ?a ?b); (case b => with_reducible assumption); (case a => exact (And.right (And.right (And.right (by with_reducible assumption))))))
      | (refine' Nat.ne_of_gt (Nat.lt_trans ?a ?b); (case b => with_reducible assumption); (case a => exact (And.left (And.right (And.right (And.right (And.right (by with_reducible assumption))))))))
      | (refine' Nat.ne_of_lt (Nat.lt_trans ?a ?b); (case b => with_reducible assumption); (case a => exact (And.left (And.right (And.right (And.right (And.right (by with_reducible assumption))))))))
      | (refine' Nat.ne_of_gt (Nat.lt_trans ?a ?b); (case b => with_reducible assumption); (case a => exact (And.right (And.right (And.right (And.right (by with_reducible assumption)))))))
      | (refine' Nat.ne_of_lt (Nat.lt_trans ?a ?b); (case b => with_reducible assumption); (case a => exact (And.right (And.right (And.right (And.right (by with_reducible assumption)))))))
      | (refine' Nat.ne_of_gt (Nat.lt_trans ?a ?b); (case b => with_reducible assumption); (case a => exact (And.left (And.right (And.right (And.right (And.right (And.right (by with_reducible assumption)))))))))
      | (refine' Nat.ne_of_lt (Nat.lt_trans ?a ?b); (case b => with_reducible assumption); (case a => exact (And.left (And.right (And.right (And.right (And.right (And.right (by with_reducible assumption)))))))))
      | (refine' Nat.ne_of_gt (Nat.lt_trans ?a ?b); (case b => with_reducible assumption); (case a => exact (And.right (And.right (And.right (And.right (And.right (by with_reducible assumption))))))))
      | (refine' Nat.ne_of_lt (Nat.lt_trans ?a ?b); (case b => with_reducible assumption); (case a => exact (And.right (And.right (And.right (And.right (And.right (by with_reducible assumption))))))))
      | (refine' Nat.ne_of_gt (Nat.lt_trans ?a ?b); (case b => with_reducible assumption); (case a => exact (And.left (And.right (And.right (And.right (And.right (And.right (And.right (by with_reducible assumption))))))))))
      | (refine' Nat.ne_of_lt (Nat.lt_trans ?a ?b); (case b => with_reducible assumption); (case a => exact (And.left (And.right (And.right (And.right (And.right (And.right (And.right (by with_reducible assumption))))))))))
      | (refine' Nat.ne_of_gt (Nat.lt_trans ?a ?b); (case b => with_reducible assumption); (case a => exact (And.right (And.right (And.right (And.right (And.right (And.right (by with_reducible assumption)))))))))
      | (refine' Nat.ne_of_lt (Nat.lt_trans ?a ?b); (case b => with_reducible assumption); (case a => exact (And.right (And.right (And.right (And.right (And.right (And.right (by with_reducible assumption)))))))))
      | (refine' Nat.ne_of_gt (Nat.lt_trans ?a ?b); (case b => with_reducible assumption); (case a => exact (And.left (And.right (And.right (And.right (And.right (And.right (And.right (And.right (by with_reducible assumption)))))))))))
      | (refine' Nat.ne_of_lt (Nat.lt_trans ?a ?b); (case b => with_reducible assumption); (case a => exact (And.left (And.right (And.right (And.right (And.right (And.right (And.right (And.right (by with_reducible assumption)))))))))))
      | (refine' Nat.ne_of_gt (Nat.lt_trans ?a ?b); (case b => with_reducible assumption); (case a => exact (And.right (And.right (And.right (And.right (And.right (And.right (And.right (by with_reducible assumption))))))))))
      | (refine' Nat.ne_of_lt (Nat.lt_trans ?a ?b); (case b => with_reducible assumption); (case a => exact (And.right (And.right (And.right (And.right (And.right (And.right (And.right (by with_reducible assumption))))))))))
      | (refine' Nat.ne_of_gt (Nat.lt_trans ?a ?b); (case b => with_reducible assumption); (case a => exact (And.left (And.right (And.right (And.right (And.right (And.right (And.right (And.right (And.right (by with_reducible assumption))))))))))))
      | (refine' Nat.ne_of_lt (Nat.lt_trans ?a ?b); (case b => with_reducible assumption); (case a => exact (And.left (And.right (And.right (And.right (And.right (And.right (And.right (And.right (And.right (by with_reducible assumption))))))))))))
      | (refine' Nat.ne_of_gt (Nat.lt_trans ?a ?b); (case b => with_reducible assumption); (case a => exact (And.right (And.right (And.right (And.right (And.right (And.right (And.right (And.right (by with_reducible assumption)))))))))))
      | (refine' Nat.ne_of_lt (Nat.lt_trans ?a ?b); (case b => with_reducible assumption); (case a => exact (And.right (And.right (And.right (And.right (And.right (And.right (And.right (And.right (by with_reducible assumption)))))))))))
      | (refine' Nat.ne_of_gt (Nat.lt_trans ?a ?b); (case b => with_reducible assumption); (case a => exact (And.left (And.right (And.right (And.right (And.right (And.right (And.right (And.right (And.right (And.right (by with_reducible assumption)))))))))))))
      | (refine' Nat.ne_of_lt (Nat.lt_trans ?a ?b); (case b => with_reducible assumption); (case a => exact (And.left (And.right (And.right (And.right (And.right (And.right (And.right (And.right (And.right (And.right (by with_reducible assumption)))))))))))))
      | (refine' Nat.ne_of_gt (Nat.lt_trans ?a ?b); (case b => with_reducible assumption); (case a => exact (And.right (And.right (And.right (And.right (And.right (And.right (And.right (And.right (And.right (by with_reducible assumption))))))))))))
      | (refine' Nat.ne_of_lt (Nat.lt_trans ?a ?b); (case b => with_reducible assumption); (case a => exact (And.right (And.right (And.right (And.right (And.right (And.right (And.right (And.right (And.right (by with_reducible assumption))))))))))))
      | (refine' Nat.ne_of_gt (Nat.lt_trans ?a ?b); (case b => with_reducible assumption); (case a => exact (And.left (And.right (And.right (And.right (And.right (And.right (And.right (And.right (And.right (And.right (And.right (by with_reducible assumption))))))))))))))
      | (refine' Nat.ne_of_lt (Nat.lt_trans ?a ?b); (case b => with_reducible assumption); (case a => exact (And.left (And.right (And.right (And.right (And.right (And.right (And.right (And.right (And.right (And.right (And.right (by with_reducible assumption))))))))))))))
      | (refine' Nat.ne_of_gt (Nat.lt_trans ?a ?b); (case b => with_reducible assumption); (case a => exact (And.right (And.right (And.right (And.right (And.right (And.right (And.right (And.right (And.right (And.right (by with_reducible assumption)))))))))))))
      | (refine' Nat.ne_of_lt (Nat.lt_trans ?a ?b); (case b => with_reducible assumption); (case a => exact (And.right (And.right (And.right (And.right (And.right (And.right (And.right (And.right (And.right (And.right (by with_reducible assumption)))))))))))))
      | (refine' Nat.ne_of_gt (Nat.lt_trans ?a ?b); (case b => with_reducible assumption); (case a => exact (And.left (And.right (And.right (And.right (And.right (And.right (And.right (And.right (And.right (And.right (And.right (And.right (by with_reducible assumption)))))))))))))))
      | (refine' Nat.ne_of_lt (Nat.lt_trans ?a ?b); (case b => with_reducible assumption); (case a => exact (And.left (And.right (And.right (And.right (And.right (And.right (And.right (And.right (And.right (And.right (And.right (And.right (by with_reducible assumption)))))))))))))))
      | (refine' Nat.ne_of_gt (Nat.lt_trans ?a ?b); (case b => with_reducible assumption); (case a => exact (And.right (And.right (And.right (And.right (And.right (And.right (And.right (And.right (And.right (And.right (And.right (by with_reducible assumption))))))))))))))
      | (refine' Nat.ne_of_lt (Nat.lt_trans ?a ?b); (case b => with_reducible assumption); (case a => exact (And.right (And.right (And.right (And.right (And.right (And.right (And.right (And.right (And.right (And.right (And.right (by with_reducible assumption))))))))))))))
      | fail "ne"
  k_with "call builtin:sum" => (k_here; k_dflt (refine' sum_pick ?F ?N ?hh ?hm ?hi ?_; (case F => k_asm); (case N => k_asm); (case hh => exact rfl); (case hm => k_mem); (case hi => l_ints); k_whole); intro i' h' tk' t' F' N'; (try k_sweep))
  k_with "exec For Name Subscript cons nil" => (k_here; (rename Fr _ _ _ _ => lF'); (with_unfolding_all refine' For_turns lF' ?_); k_whole)
  k_with "call builtin:list.append" => (k_here; (with_reducible show wpAny _ _ (call (Value.builtin _) [Value.ref _, _]) _ _ _); k_dflt (refine' append_K ?k1 ?k2 ?k3 ?_ ?z; (case k1 => k_asm); (case k2 => k_asm); (case k3 => k_upd); (case z => first | size_fits | exact Nat.le_trans (by assumption) (by decide : 3 ≤ sizeLine)); k_whole); intro h' F' N'; (try k_sweep))
  k_with "exec For Tuple Name cons nil" => (k_here; (rename Fr _ _ _ _ => lF'); (with_unfolding_all refine' For_turns lF' ?_); k_whole)
  k_with "compareOp Is" => (first | refine is_bool ?_ | refine is_opt ?_)
  k_with "call builtin:all" => (k_here; (with_reducible show wpAny _ _ (call (Value.builtin "all") [Value.ref _]) _ _ _); k_dflt (refine' all_true ?F ?N ?hh ?hm ?ht ?_; (case F => k_asm); (case N => k_asm); (case hh => exact rfl); (case hm => k_mem); (case ht => assumption)); intro h' tk' F' N'; (try k_sweep))
  k_go0
  all_goals (try k_fold)
  refine no_E ?_
  rename Below _ _ _ _ => KK
  rename Frag.In _ _ => XX
  rename Top _ _ _ _ _ _ => TT
  rename (127 < _) => L0
  repeat' (first | (k_unfold; (try dsimp only)) | ((fail_if_success (with_unfolding_all show LCg.CompSrc _ _ _ _ _ _ _ _ _ _ _ _ _ _)); walk1))
  rename Fr _ _ _ _ => FF
  rename News _ _ _ _ => NN
  refine LCg.CompSrc.range (n := 4) (by rfl) FF NN (by assumption) (by decide) (by decide) (by decide) fun g' => ?_
  refine figs_rest IsNum 4 ?turn 4 0 [] rfl rfl (fun j h => absurd h (Nat.not_lt_zero _)) ?fin
  case turn =>
    clear FF NN
    intro i v I oI C oC Da ys m₂ h tk E' hv hi hC hx F N
    obtain ⟨t, rfl⟩ := hv
    have hi' := lt4 i hi
    rcases hi' with rfl | rfl | rfl | rfl
    all_goals (repeat' (first | (k_unfold; (try dsimp only)) | ((fail_if_success (show ∃ _, _)); walk1)))
    all_goals (rename Fr _ _ _ _ => FF)
    all_goals (rename News _ _ _ _ => NN)
    all_goals exact ⟨_, _, rfl, ⟨_, _, rfl, fmod_num _⟩, FF, fun q hq => NN q (List.mem_cons_of_mem _ hq)⟩
  case fin =>
    intro ys hy hP
    obtain ⟨a, b, c, d, ta, tb, tc, td, rfl, h0a, h0b, h0c, h0d⟩ := four hy hP
    clear FF NN hP hy
    unfold LCg.FinA
    intro D h tk F N off
    simp only [LCg.Off1, and_true] at off
    repeat' (first | (k_unfold; (try dsimp only)) | ((fail_if_success (with_reducible show wpAny _ _ (pyIter _) (fun it s₂ => TurnsAt _ _ _ _ _ _ _ _ _ it s₂) _ _)); walk1))
    rename Fr _ _ _ _ => FF
    rename News _ _ _ _ => NN
    rename (_ ∧ _ ∧ _) => LL
    have AP : Apt _ _ _ D := ⟨L0, by first | exact LL.2.2.2.1 | omega, LL.1, by omega, Ne.symm off.2.2.2.1, Ne.symm off.2.2.1, Ne.symm off.2.1, Ne.symm off.2.2.2.2.2.2⟩
    refine start_P (vs := [.int b tb, .int c tc, .int d td]) ?hL rfl ⟨_, by assumption⟩ FF NN (by rfl) (by rfl) ?turnP (fun v hv => by
      simp only [List.mem_cons, List.not_mem_nil, or_false] at hv
      rcases hv with rfl | rfl | rfl <;> exact ⟨_, _, rfl⟩) ?done
    case hL => rfl
    case turnP =>
      clear FF NN
      intro I it v q tq ps n oN Os i m h9 tk9 hi3 hv hmem st oI hit F N
      subst hv
      have h0 : 0 ≤ q := by
        simp only [List.mem_cons, List.not_mem_nil, or_false, Value.int.injEq] at hmem
        rcases hmem with ⟨rfl, _⟩ | ⟨rfl, _⟩ | ⟨rfl, _⟩ <;> assumption
      obtain ⟨_, hlen, ⟨cv, hcv⟩, hps, m1, m2, f1, f2, f3, f4, f5, f6, f7⟩ := st
      have q1 := neNat (oI _ (List.mem_cons_self ..))
      have q2 := neNat (oI _ (List.mem_cons_of_mem _ (List.mem_cons_self ..)))
      have q3 := neNat (oI _ (List.mem_cons_of_mem _ (List.mem_cons_of_mem _ (List.mem_cons_self ..))))
      have q4 := neNat (oI _ (List.mem_cons_of_mem _ (List.mem_cons_of_mem _ (List.mem_cons_of_mem _ (List.mem_cons_self ..)))))
      dsimp only at q1 q2 q3 q4
      rw [m_two m1 m2] at F
      obtain ⟨a1, a2, a3, a4, a5, a6, a7, a8⟩ := AP
      clear m1 m2
      repeat' (first | (k_unfold; (try dsimp only)) | ((fail_if_success (with_reducible show wpAny _ _ (call (Value.ref 106) _ _) _ _ _)); walk1))
      rename Fr _ _ _ _ => F1
      rename News _ _ _ _ => N1
      refine bare_use F1 N1 XX TT h0a h0 (by decide) fun bv bd h2 tk2 Ob F2 N2 o2 hb => ?_
      clear F1 N1
      simp only [List.cons_append] at N2
      repeat' (first | (k_unfold; (try dsimp only)) | ((fail_if_success (with_reducible show wpAny _ _ (eval (Expr.ListComp _ _ _ _) _) _ _ _)); walk1))
      rename Fr _ _ _ _ => F3
      rename News _ _ _ _ => N3
      refine LCg.ListComp_U F3 (by with_unfolding_all rfl) (by decide) (by rfl) (by decide) (by rfl) ?_
      repeat' (first | (k_unfold; (try dsimp only)) | ((fail_if_success (with_unfolding_all show LCg.CompSrc _ _ _ _ _ _ _ _ _ _ _ _ _ _)); walk1))
      rename IsRange _ _ _ _ _ _ _ _ => R4
      rename Fr _ _ _ _ => F4
      rename News _ _ _ _ => N4
      refine LCg.CompSrc.range (n := 10) (by rfl) F4 N4 R4 (by decide) (by decide) (by decide) fun g4 => ?_
      refine figs_rest IsFig 10 ?figs 10 0 [] rfl rfl (fun j h => absurd h (Nat.not_lt_zero _)) ?fin2
      case figs =>
        clear F4 N4 R4
        intro j vj Ij oIj Cj oCj Daj ysj m₂ hj tkj Ej hvj hij hCj hxj Fj Nj
        obtain ⟨tj, rfl⟩ := hvj
        have hj' := lt10 j hij
        rcases hj' with rfl | rfl | rfl | rfl | rfl | rfl | rfl | rfl | rfl | rfl
        all_goals (repeat' (first | (k_unfold; (try dsimp only)) | ((fail_if_success (show ∃ _, _)); walk1)))
        all_goals (rename Fr _ _ _ _ => FF)
        all_goals (rename News _ _ _ _ => NN)
        all_goals exact ⟨_, _, rfl, ⟨_, _, rfl, fmod3 _⟩, FF, NN⟩
      case fin2 =>
        intro us hus hfig
        have hfg := figs_of hfig
        clear F4 N4 R4
        unfold LCg.FinE
        intro fl h5 tk5 F5 N5 off5
        repeat' (first | (k_unfold; (try dsimp only)) | ((fail_if_success (with_reducible show wpAny _ _ (call (Value.ref 111) _ _) _ _ _)); walk1))
        refine dress_use (Os := Ob) F5 N5 XX TT hb (fun p hp => by repeat (first | exact List.mem_append_right _ hp | apply List.mem_cons_of_mem)) (off1_mem off5) hfg hus (by decide) fun du h6 tk6 us6 n6 Od F6 N6 o6 hd6 => ?_
        have ofl := off1_mem off5
        clear F5 N5 off5
        simp only [List.cons_append] at N6
        have g0 := oa (oa (show ∀ p ∈ Os, p.1 ≠ I from fun p hp => oI p (by repeat (first | exact hp | apply List.mem_cons_of_mem))) (fun p hp => o2 p hp (I, it) (by k_mem))) (fun p hp => o6 p hp (I, it) (by k_mem))
        have g1 := oa (oa f1 (fun p hp => o2 p hp (_, W.listOf ps.toArray n) (by k_mem))) (fun p hp => o6 p hp (_, W.listOf ps.toArray n) (by k_mem))
        have hps3 : ps.toArray.size ≤ 3 := by rw [List.size_toArray, hlen]; exact Nat.le_of_lt hi3
        have qfl := neNat (ofl (_, W.listOf ps.toArray n) (by k_mem))
        dsimp only at qfl
        repeat' (first | (k_unfold; (try dsimp only)) | ((fail_if_success (with_unfolding_all show LoopEnd _ _ _ _ _ _ _ _)); walk1))
        have g2 := oa (oa f2 (fun p hp => o2 p hp _ (List.mem_cons_of_mem _ (List.mem_cons_of_mem _ (List.mem_cons_self ..))))) (fun p hp => o6 p hp _ (List.mem_cons_of_mem _ (List.mem_cons_of_mem _ (List.mem_cons_of_mem _ (List.mem_cons_self ..)))))
        have g3 := oa (oa f3 (fun p hp => o2 p hp _ (List.mem_cons_of_mem _ (List.mem_cons_of_mem _ (List.mem_cons_of_mem _ (List.mem_cons_self ..)))))) (fun p hp => o6 p hp _ (List.mem_cons_of_mem _ (List.mem_cons_of_mem _ (List.mem_cons_of_mem _ (List.mem_cons_of_mem _ (List.mem_cons_self ..))))))
        have g4 := oa (oa f4 (fun p hp => o2 p hp _ (List.mem_cons_of_mem _ (List.mem_cons_of_mem _ (List.mem_cons_of_mem _ (List.mem_cons_of_mem _ (List.mem_cons_self ..))))))) (fun p hp => o6 p hp _ (List.mem_cons_of_mem _ (List.mem_cons_of_mem _ (List.mem_cons_of_mem _ (List.mem_cons_of_mem _ (List.mem_cons_of_mem _ (List.mem_cons_self ..)))))))
        have g5 := oa (oa f5 (fun p hp => o2 p hp _ (List.mem_cons_of_mem _ (List.mem_cons_of_mem _ (List.mem_cons_of_mem _ (List.mem_cons_of_mem _ (List.mem_cons_of_mem _ (List.mem_cons_self ..)))))))) (fun p hp => o6 p hp _ (List.mem_cons_of_mem _ (List.mem_cons_of_mem _ (List.mem_cons_of_mem _ (List.mem_cons_of_mem _ (List.mem_cons_of_mem _ (List.mem_cons_of_mem _ (List.mem_cons_self ..))))))))
        have g6 := oa (oa f6 (fun p hp => o2 p hp _ (List.mem_cons_of_mem _ (List.mem_cons_of_mem _ (List.mem_cons_of_mem _ (List.mem_cons_of_mem _ (List.mem_cons_of_mem _ (List.mem_cons_of_mem _ (List.mem_cons_self ..))))))))) (fun p hp => o6 p hp _ (List.mem_cons_of_mem _ (List.mem_cons_of_mem _ (List.mem_cons_of_mem _ (List.mem_cons_of_mem _ (List.mem_cons_of_mem _ (List.mem_cons_of_mem _ (List.mem_cons_of_mem _ (List.mem_cons_self ..)))))))))
        have g7 := oa (oa f7 (fun p hp => o2 p hp _ (List.mem_cons_of_mem _ (List.mem_cons_of_mem _ (List.mem_cons_of_mem _ (List.mem_cons_of_mem _ (List.mem_cons_of_mem _ (List.mem_cons_of_mem _ (List.mem_cons_of_mem _ (List.mem_cons_self ..)))))))))) (fun p hp => o6 p hp _ (List.mem_cons_of_mem _ (List.mem_cons_of_mem _ (List.mem_cons_of_mem _ (List.mem_cons_of_mem _ (List.mem_cons_of_mem _ (List.mem_cons_of_mem _ (List.mem_cons_of_mem _ (List.mem_cons_of_mem _ (List.mem_cons_self ..))))))))))
        rename Fr _ _ _ _ => F7
        rename News _ _ _ _ => N7
        exact end_P F7 N7 hlen ⟨_, by assumption⟩ hps hb hd6 (by rfl) (by rfl) (by k_ne) (by k_ne) (by k_ne) (by k_ne) (by k_ne) (by k_ne) (by k_ne) (by k_ne) q1 q2 q3 q4 (oI _ (List.mem_cons_of_mem _ (List.mem_cons_of_mem _ (List.mem_cons_of_mem _ (List.mem_cons_of_mem _ (List.mem_cons_self ..)))))) (oI _ (List.mem_cons_of_mem _ (List.mem_cons_of_mem _ (List.mem_cons_of_mem _ (List.mem_cons_of_mem _ (List.mem_cons_of_mem _ (List.mem_cons_self ..))))))) (oI _ (List.mem_cons_of_mem _ (List.mem_cons_of_mem _ (List.mem_cons_of_mem _ (List.mem_cons_of_mem _ (List.mem_cons_of_mem _ (List.mem_cons_of_mem _ (List.mem_cons_self ..)))))))) g0 g1 g2 g3 g4 g5 g6 g7
    case done =>
      clear FF NN
      intro h9 tk9 m ps n oN Os F9 N9 st
      have hps := st.ok
      have m2 := st.pairs
      have g1 := st.off1
      have g5 := st.off5
      have g6 := st.off6
      have g7 := st.off7
      clear st
      rw [m_one m2] at F9
      repeat' (first | (k_unfold; (try dsimp only)) | ((fail_if_success (with_reducible show wpAny _ _ (pyIter _) (fun it s₂ => TurnsAt _ _ _ _ _ _ _ _ _ it s₂) _ _)); walk1))
      rename Fr _ _ _ _ => F8
      rename News _ _ _ _ => N8
      refine start_Q (tab := #[]) (Os := Os) ?hL rfl F8 N8 ⟨rfl, ⟨_, by assumption⟩, ⟨_, by assumption⟩, hps, by rfl, g1, g5, g6, g7, .inl rfl⟩ ?turnQ ?doneQ
      case hL => rfl
      case doneQ =>
        clear F8 N8
        intro h10 tk10 m10 tab10 F10 N10
        repeat' (first | (k_unfold; (try dsimp only)) | ((fail_if_success (show GoodW _ _ _ _ _ _ _)); (fail_if_success (show GrownAll _ _)); walk1))
        · refine goodW_bool F10 (by assumption) (raisesW_false (by wrow_none_raised)) (postW_of rfl (w_eq_bool (k := true) (l := true) (w_res rfl) w_lit) rfl)
        · exact ⟨GrownAt.of N10 (by k_mem), trivial⟩
      case turnQ =>
        clear F8 N8 hps m2 g1 g5 g6 g7
        intro I it v tab oD oT Os m h10 tk10 hv st oI hit F N
        obtain ⟨T, nT, av, bv, dv, rfl, hTm, hbg, hdr⟩ := st.ok v hv
        have hTup : IsTup h10 T #[av, bv] := ⟨_, (N _ (List.mem_cons_of_mem _ (List.mem_cons_of_mem _ (List.mem_cons_of_mem _ (List.mem_cons_of_mem _ (List.mem_cons_of_mem _ hTm)))))).1, rfl, _, rfl⟩
        rw [m_one st.pairs] at F
        have q1 := neNat (oI _ (List.mem_cons_self ..))
        have q2 := neNat (oI _ (List.mem_cons_of_mem _ (List.mem_cons_self ..)))
        have q3 := neNat (oI _ (List.mem_cons_of_mem _ (List.mem_cons_of_mem _ (List.mem_cons_self ..))))
        have q4 := neNat (oI _ (List.mem_cons_of_mem _ (List.mem_cons_of_mem _ (List.mem_cons_of_mem _ (List.mem_cons_self ..)))))
        dsimp only at q1 q2 q3 q4
        repeat' (first | (k_unfold; (try dsimp only)) | ((fail_if_success (with_reducible show wpAny _ _ (pyIter _) (fun it s₂ => TurnsAt _ _ _ _ _ _ _ _ _ it s₂) _ _)); walk1))
        rename Fr _ _ _ _ => F1
        rename News _ _ _ _ => N1
        refine start_R (tab := tab) (Os := Os) (a := av) (b := bv) (I := I) (it := it) ?hL2 rfl F1 N1 ⟨rfl, ⟨rfl, st.cd, st.ct, st.ok, by rfl, st.off1, st.off2, st.off3, st.off4, st.tb⟩, by rfl, by rfl, fun p hp => oI p (by repeat (first | exact hp | apply List.mem_cons_of_mem)), dv, hbg, hdr⟩ ?turnR ?doneR
        case hL2 => rfl
        case doneR =>
          intro h11 tk11 m11 tab' oD' oT' Os' F2 N2 x
          repeat' (first | (k_unfold; (try dsimp only)) | ((fail_if_success (with_unfolding_all show LoopEnd _ _ _ _ _ _ _ _)); walk1))
          exact end_Q F2 N2 x q1 q2 q3 q4
        case turnR =>
          clear F1 N1 hTup hTm hbg hdr oI st hit hv
          intro K kt v tab oD oT Os m h11 tk11 hv st oK hkt F N
          obtain ⟨T', nT', av', bv', dv', rfl, hTm', hbg', hdr'⟩ := st.core.ok v hv
          obtain ⟨d0, hbg0, hdr0⟩ := st.bare
          have hTup' : IsTup h11 T' #[av', bv'] := ⟨_, (N _ (List.mem_cons_of_mem _ (List.mem_cons_of_mem _ (List.mem_cons_of_mem _ (List.mem_cons_of_mem _ (List.mem_cons_of_mem _ (List.mem_cons_of_mem _ (hTm')))))))).1, rfl, _, rfl⟩
          rw [m_three st.core.pairs st.one st.left] at F
          have k0 := neNat (oK _ (List.mem_cons_self ..))
          have k1 := neNat (oK _ (List.mem_cons_of_mem _ (List.mem_cons_self ..)))
          have k2 := neNat (oK _ (List.mem_cons_of_mem _ (List.mem_cons_of_mem _ (List.mem_cons_self ..))))
          have k3 := neNat (oK _ (List.mem_cons_of_mem _ (List.mem_cons_of_mem _ (List.mem_cons_of_mem _ (List.mem_cons_self ..)))))
          have k4 := neNat (oK _ (List.mem_cons_of_mem _ (List.mem_cons_of_mem _ (List.mem_cons_of_mem _ (List.mem_cons_of_mem _ (List.mem_cons_self ..))))))
          dsimp only at k0 k1 k2 k3 k4
          repeat' (first | (k_unfold; (try dsimp only)) | ((fail_if_success (with_reducible show wpAny _ _ (call (Value.ref 118) _ _) _ _ _)); walk1))
          rename Fr _ _ _ _ => F1
          rename News _ _ _ _ => N1
          refine stand_use2 (Os := Os) F1 N1 XX TT hbg0 hbg' (fun p hp => by repeat (first | exact hp | apply List.mem_cons_of_mem)) (by decide) (by decide) fun t wv h12 tk12 F2 N2 hT hw => ?_
          clear F1 N1
          repeat' (first | (k_unfold; (try dsimp only)) | ((fail_if_success (with_reducible show wpAny _ _ (call (Value.ref 125) _ _) _ _ _)); walk1))
          rename Fr _ _ _ _ => F3
          rename News _ _ _ _ => N3
          refine due_use hw F3 N3 XX TT (by decide) fun dl nl h13 tk13 F4 N4 ol => ?_
          clear F3 N3
          have e0 := neNat (ol _ (List.mem_cons_self ..))
          have e1 := neNat (ol _ (List.mem_cons_of_mem _ (List.mem_cons_self ..)))
          have e2 := neNat (ol _ (List.mem_cons_of_mem _ (List.mem_cons_of_mem _ (List.mem_cons_self ..))))
          have e3 := neNat (ol _ (List.mem_cons_of_mem _ (List.mem_cons_of_mem _ (List.mem_cons_of_mem _ (List.mem_cons_self ..)))))
          have e4 := neNat (ol _ (List.mem_cons_of_mem _ (List.mem_cons_of_mem _ (List.mem_cons_of_mem _ (List.mem_cons_of_mem _ (List.mem_cons_self ..))))))
          have e5 := neNat (ol _ (List.mem_cons_of_mem _ (List.mem_cons_of_mem _ (List.mem_cons_of_mem _ (List.mem_cons_of_mem _ (List.mem_cons_of_mem _ (List.mem_cons_self ..)))))))
          dsimp only at e0 e1 e2 e3 e4 e5
          repeat' (first | (k_unfold; (try dsimp only)) | ((fail_if_success (with_reducible show wpAny _ _ (call (Value.ref 132) _ _) _ _ _)); walk1))
          rename Fr _ _ _ _ => F5
          rename News _ _ _ _ => N5
          refine ans_use (Os := Os) (news := (dl, _) :: (K, kt) :: (I, it) :: (_, W.listOf (List.toArray ps) n) :: (_ + 1 + 1 + 1 + 1, oD) :: (_ + 1 + 1 + 1 + 1 + 1, oT) :: Os) rfl (by decide) (by decide) L0 codeHd F5 (nc (N5 _ (by k_mem)) (nc (N5 _ (by k_mem)) (nc (N5 _ (by k_mem)) (nc (N5 _ (by k_mem)) (nc (N5 _ (by k_mem)) (nc (N5 _ (by k_mem)) (nc (N5 _ (by k_mem)) fun q hq => N5 q (by repeat (first | exact hq | apply List.mem_cons_of_mem))))))))) XX TT st.core.tb hdr0 hdr' (fun p hp => by repeat (first | exact hp | apply List.mem_cons_of_mem)) (oc (by k_ne) (oc (by k_ne) (oc (by k_ne) (oc (by k_ne) (oc (by k_ne) (oc (by k_ne) st.core.off4)))))) fun al na tab' h14 tk14 Oc F6 N6 oc6 ol6 hT6 => ?_
          clear F5 N5
          simp only [List.cons_append] at N6
          unfold answers at N6
          have a0 := neNat (ol6 _ (List.mem_cons_self ..))
          have a1 := neNat (ol6 _ (List.mem_cons_of_mem _ (List.mem_cons_self ..)))
          have a2 := neNat (ol6 _ (List.mem_cons_of_mem _ (List.mem_cons_of_mem _ (List.mem_cons_self ..))))
          have a3 := neNat (ol6 _ (List.mem_cons_of_mem _ (List.mem_cons_of_mem _ (List.mem_cons_of_mem _ (List.mem_cons_self ..)))))
          have a4 := neNat (ol6 _ (List.mem_cons_of_mem _ (List.mem_cons_of_mem _ (List.mem_cons_of_mem _ (List.mem_cons_of_mem _ (List.mem_cons_self ..))))))
          have a5 := neNat (ol6 _ (List.mem_cons_of_mem _ (List.mem_cons_of_mem _ (List.mem_cons_of_mem _ (List.mem_cons_of_mem _ (List.mem_cons_of_mem _ (List.mem_cons_self ..)))))))
          have a6 := neNat (ol6 _ (List.mem_cons_of_mem _ (List.mem_cons_of_mem _ (List.mem_cons_of_mem _ (List.mem_cons_of_mem _ (List.mem_cons_of_mem _ (List.mem_cons_of_mem _ (List.mem_cons_self ..))))))))
          dsimp only at a0 a1 a2 a3 a4 a5 a6
          have gk := oa (show ∀ p ∈ Os, p.1 ≠ K from fun p hp => oK p (by repeat (first | exact hp | apply List.mem_cons_of_mem))) (fun p hp => oc6 p hp _ (List.mem_cons_of_mem _ (List.mem_cons_of_mem _ (List.mem_cons_self ..))))
          have g0 := oa st.off0 (fun p hp => oc6 p hp _ (List.mem_cons_of_mem _ (List.mem_cons_of_mem _ (List.mem_cons_of_mem _ (List.mem_cons_self ..)))))
          have g1 := oa st.core.off1 (fun p hp => oc6 p hp _ (List.mem_cons_of_mem _ (List.mem_cons_of_mem _ (List.mem_cons_of_mem _ (List.mem_cons_of_mem _ (List.mem_cons_self ..))))))
          have g2 := oa st.core.off2 (fun p hp => oc6 p hp _ (List.mem_cons_of_mem _ (List.mem_cons_of_mem _ (List.mem_cons_of_mem _ (List.mem_cons_of_mem _ (List.mem_cons_of_mem _ (List.mem_cons_self ..)))))))
          have g3 := oa st.core.off3 (fun p hp => oc6 p hp _ (List.mem_cons_of_mem _ (List.mem_cons_of_mem _ (List.mem_cons_of_mem _ (List.mem_cons_of_mem _ (List.mem_cons_of_mem _ (List.mem_cons_of_mem _ (List.mem_cons_self ..))))))))
          have g4 := oa st.core.off4 (fun p hp => oc6 p hp _ (List.mem_cons_self ..))
          obtain ⟨cv1, hcd⟩ := st.core.cd
          obtain ⟨cv2, hct⟩ := st.core.ct
          repeat' (first | (k_unfold; (try dsimp only)) | ((fail_if_success (with_reducible show wpAny _ _ (eval (Expr.ListComp _ _ _ _) _) _ _ _)); walk1))
          rename Fr _ _ _ _ => F7
          rename News _ _ _ _ => N7
          refine LCg.ListComp_U F7 (by with_unfolding_all rfl) (by decide) (by rfl) (by decide) (by rfl) ?_
          repeat' (first | (k_unfold; (try dsimp only)) | ((fail_if_success (with_unfolding_all show LCg.CompSrc _ _ _ _ _ _ _ _ _ _ _ _ _ _)); walk1))
          rename IsRange _ _ _ _ _ _ _ _ => R8
          rename Fr _ _ _ _ => F8
          rename News _ _ _ _ => N8
          refine LCg.CompSrc.range (n := 6) (by rfl) F8 N8 R8 (by decide) (by decide) (by decide) fun g8 => ?_
          refine figs_rest IsTrue 6 ?same 6 0 [] rfl rfl (fun j h => absurd h (Nat.not_lt_zero _)) ?fin3
          case same =>
            clear F8 N8 R8
            intro j vj Ij oIj Cj oCj Daj ysj mj hj tkj Ej hvj hij hCj hxj Fj Nj
            obtain ⟨tj, rfl⟩ := hvj
            have hj' := lt6 j hij
            rcases hj' with rfl | rfl | rfl | rfl | rfl | rfl
            all_goals (repeat' (first | (k_unfold; (try dsimp only)) | ((fail_if_success (show ∃ _, _)); walk1)))
            all_goals (rename Fr _ _ _ _ => FF)
            all_goals (rename News _ _ _ _ => NN)
            all_goals exact ⟨_, _, rfl, by first | exact rfl | exact congrArg Value.bool (beq_self_eq_true _), FF, NN⟩
          case fin3 =>
            intro us hus htrue
            clear F8 N8 R8
            unfold LCg.FinE
            intro fl h15 tk15 F9 N9 off9
            repeat' (first | (k_unfold; (try dsimp only)) | ((fail_if_success (with_unfolding_all show LoopEnd _ _ _ _ _ _ _ _)); walk1))
            rename Fr _ _ _ _ => FX
            rename News _ _ _ _ => NX
            exact end_R FX (nc (NX _ (by k_mem)) (nc (NX _ (by k_mem)) (nc (NX _ (by k_mem)) (nc (NX _ (by k_mem)) (nc (NX _ (by k_mem)) (nc (NX _ (by k_mem)) fun q hq => NX q (by repeat (first | exact hq | apply List.mem_cons_of_mem)))))))) ⟨_, by assumption⟩ ⟨_, by assumption⟩ st.core.ok (by rfl) (by rfl) (by rfl) hbg0 hdr0 hT6 k0 k1 k2 k3 k4 gk g0 g1 g2 g3 g4
      )
end Mine
theorem PySem.Challenge.cw_rs0255_01_holds : PySem.Challenge.rw_rs0255_01.Holds :=
  Mine.law_holds
