import PyProof.Rows.All
import Wide.All
import OpenK.AllK
import Wide.FinOn
import KE.KxDecode
import Lean
import PySem.Challenge.RW_lo0042_01
open PySem PySem.W PyProof.Rows PySem.Calls
set_option Elab.async false
set_option maxRecDepth 100000
set_option maxHeartbeats 8000000
set_option linter.unusedVariables false
set_option rowWalk.seconds 0
namespace Mine
/-- the text's first statement, hidden from the elaborator: so «open_top» has the top checked at once and not in pieces; the pieces' lemmas weigh 14 MB -/
@[irreducible] def stmt1 : Stmt := PySem.Challenge.pw_lo0042_01.main.body.headD (.Pass ⟨1, 0, 1, 4⟩)
def prog2 : Program := { PySem.Challenge.pw_lo0042_01 with main := { PySem.Challenge.pw_lo0042_01.main with body := stmt1 :: PySem.Challenge.pw_lo0042_01.main.body.tail } }
/-- the law's row again -/
def row2 : OpenRow := { PySem.Challenge.rw_lo0042_01.row with prog := prog2 }
theorem row_eq : row2 = PySem.Challenge.rw_lo0042_01.row := by kernel_rfl
theorem said : PySem.Challenge.rw_lo0042_01.wellSaid = true := by decide +kernel
section
theorem said2 : row2.wellSaid = true := row_eq ▸ row_said said
local macro_rules | `(tactic| assumption) => `(tactic| exact said2)
local macro_rules | `(tactic| rfl) => `(tactic| with_unfolding_all exact Eq.refl _)
open_top hd for row2
end
theorem turn_row {q : Program} {loose : List PySem.Str} {XP : (PySem.Str → Option Value) → Heap → Prop} {YP : World → Heap → Prop} {r r' : OpenRow} {d : DefRec} {kwd : List (PySem.Str × Expr)} {f : Value → List Value → Sem Value}
    (e : r = r') (hd : WalkO q loose XP YP r.toRowW d kwd f → r.Holds) (h : WalkO q loose XP YP r'.toRowW d kwd f) : r'.Holds := e ▸ hd (e ▸ h)
end Mine
theorem Mine.topOff : True := by
  w_top off
  trivial
local macro_rules | `(tactic| walk_at $s:str) => `(tactic| k_extra $s)
local macro_rules | `(tactic| k_all) => `(tactic| k_extra "k_all")
local macro_rules | `(tactic| k_enter) => `(tactic| k_extra "k_enter")
local macro_rules | `(tactic| k_get) => `(tactic| k_extra "k_get")
local macro_rules | `(tactic| k_handed) => `(tactic| k_extra "k_handed")
local macro_rules | `(tactic| k_mem) => `(tactic| k_extra "k_mem")
local macro_rules | `(tactic| k_ne) => `(tactic| k_extra "k_ne")
local macro_rules | `(tactic| k_room) => `(tactic| k_extra "k_room")
local macro_rules | `(tactic| k_units) => `(tactic| k_extra "k_units")
local macro_rules | `(tactic| k_updF) => `(tactic| k_extra "k_updF")
local macro_rules | `(tactic| ktr_room) => `(tactic| k_extra "ktr_room")
namespace Mine
theorem lt_0 {a b c : Nat} (h : a < b) (e : Nat.ble b c = true) : a < c := Nat.lt_of_lt_of_le h (Nat.le_of_ble_eq_true e)
theorem lt_1 {a b k c : Nat} (h : a < b) (e : Nat.ble (b + k) c = true) : a + k < c := lt_0 (Nat.add_lt_add_right h k) e
theorem lt_2 {a b k m c : Nat} (h : a < b) (e : Nat.ble (b + k + m) c = true) : a + k + m < c := lt_1 (Nat.add_lt_add_right h k) e
theorem lt_3 {a b k m n c : Nat} (h : a < b) (e : Nat.ble (b + k + m + n) c = true) : a + k + m + n < c := lt_2 (Nat.add_lt_add_right h k) e
theorem le_0 {a b c : Nat} (h : a ≤ b) (e : Nat.ble b c = true) : a ≤ c := Nat.le_trans h (Nat.le_of_ble_eq_true e)
theorem le_1 {a b k c : Nat} (h : a ≤ b) (e : Nat.ble (b + k) c = true) : a + k ≤ c := le_0 (Nat.add_le_add_right h k) e
theorem le_e {a b c : Nat} (h : a = b) (e : Nat.ble b c = true) : a ≤ c := le_0 (Nat.le_of_eq h) e
theorem lt_63 {k n : Int} (h : k < n) (e : decide (n ≤ 2 ^ 63) = true) : k < 2 ^ 63 := Int.lt_of_lt_of_le h (of_decide_eq_true e)
theorem no_eq {r a b : Int} (h : r = a) (k : r = b) (e : decide (a = b) = false) : False := of_decide_eq_false e (h.symm.trans k)
theorem no_lt {r a b : Int} (h : r = a) (k : r < b) (e : decide (a < b) = false) : False := of_decide_eq_false e (h ▸ k)
theorem no_le {r a b : Int} (h : r = a) (k : b ≤ r) (e : decide (b ≤ a) = false) : False := of_decide_eq_false e (h ▸ k)
theorem no_in {r a b : Int} (k : a ≤ r) (h : r < b) (e : decide (a < b) = false) : False := of_decide_eq_false e (Int.lt_of_le_of_lt k h)
theorem int_lt {r a b : Int} (h : r = a) (e : decide (a < b) = true) : r < b := h ▸ of_decide_eq_true e
theorem int_le {r a b : Int} (h : r = a) (e : decide (a ≤ b) = true) : r ≤ b := h ▸ of_decide_eq_true e
theorem int_ge {r a b : Int} (h : r = a) (e : decide (b ≤ a) = true) : b ≤ r := h ▸ of_decide_eq_true e
theorem int_gt {r a b : Int} (h : r = a) (e : decide (b < a) = true) : b < r := h ▸ of_decide_eq_true e
theorem nat6 : ∀ n < 6, n = 0 ∨ n = 1 ∨ n = 2 ∨ n = 3 ∨ n = 4 ∨ n = 5 := by decide
theorem nat8 : ∀ n < 8, n = 0 ∨ n = 1 ∨ n = 2 ∨ n = 3 ∨ n = 4 ∨ n = 5 ∨ n = 6 ∨ n = 7 := by decide
theorem nat4 : ∀ n < 4, n = 0 ∨ n = 1 ∨ n = 2 ∨ n = 3 := by decide
theorem nat3 : ∀ n < 3, n = 0 ∨ n = 1 ∨ n = 2 := by decide
theorem nat2 : ∀ n < 2, n = 0 ∨ n = 1 := by decide
theorem nat_of {k n : Int} {m : Nat} (h0 : 0 ≤ k) (h1 : k < n) (e : n = (m : Int)) : ∃ j : Nat, j < m ∧ k = (j : Int) :=
  ⟨k.toNat, Int.ofNat_lt.mp ((Int.toNat_of_nonneg h0).symm ▸ e ▸ h1), (Int.toNat_of_nonneg h0).symm⟩
theorem int8 {k : Int} (h0 : 0 ≤ k) (h1 : k < 8) : k = 0 ∨ k = 1 ∨ k = 2 ∨ k = 3 ∨ k = 4 ∨ k = 5 ∨ k = 6 ∨ k = 7 := by
  obtain ⟨j, hj, e⟩ := nat_of h0 h1 (m := 8) rfl
  exact e ▸ (nat8 j hj).imp (congrArg Int.ofNat) (.imp (congrArg Int.ofNat) (.imp (congrArg Int.ofNat) (.imp (congrArg Int.ofNat) (.imp (congrArg Int.ofNat) (.imp (congrArg Int.ofNat) (.imp (congrArg Int.ofNat) (congrArg Int.ofNat)))))))
theorem int4 {k : Int} (h0 : 0 ≤ k) (h1 : k < 4) : k = 0 ∨ k = 1 ∨ k = 2 ∨ k = 3 := by
  obtain ⟨j, hj, e⟩ := nat_of h0 h1 (m := 4) rfl
  exact e ▸ (nat4 j hj).imp (congrArg Int.ofNat) (.imp (congrArg Int.ofNat) (.imp (congrArg Int.ofNat) (congrArg Int.ofNat)))
theorem int3 {k : Int} (h0 : 0 ≤ k) (h1 : k < 3) : k = 0 ∨ k = 1 ∨ k = 2 := by
  obtain ⟨j, hj, e⟩ := nat_of h0 h1 (m := 3) rfl
  exact e ▸ (nat3 j hj).imp (congrArg Int.ofNat) (.imp (congrArg Int.ofNat) (congrArg Int.ofNat))
theorem int2 {k : Int} (h0 : 0 ≤ k) (h1 : k < 2) : k = 0 ∨ k = 1 := by
  obtain ⟨j, hj, e⟩ := nat_of h0 h1 (m := 2) rfl
  exact e ▸ (nat2 j hj).imp (congrArg Int.ofNat) (congrArg Int.ofNat)
/-- a form in the upper half -/
theorem int48 {k : Int} (h : 4 ≤ k) (h1 : k < 8) : k = 4 ∨ k = 5 ∨ k = 6 ∨ k = 7 :=
  (int4 (k := k - 4) (Int.sub_nonneg_of_le h) (Int.sub_lt_sub_right h1 4)).imp (fun e => Int.sub_eq_iff_eq_add.mp e) (.imp (fun e => Int.sub_eq_iff_eq_add.mp e) (.imp (fun e => Int.sub_eq_iff_eq_add.mp e) (fun e => Int.sub_eq_iff_eq_add.mp e)))
theorem int014 {k : Int} (h0 : 0 ≤ k) (h1 : k < 2) : k = 0 ∨ k = 1 ∨ k = 4 := (int2 h0 h1).imp id .inl
theorem fm_ge (n : Int) {b : Int} (e : decide (0 < b) = true) : 0 ≤ n.fmod b := Int.fmod_nonneg_of_pos n (of_decide_eq_true e)
theorem fm_lt (n : Int) {b : Int} (e : decide (0 < b) = true) : n.fmod b < b := Int.fmod_lt_of_pos n (of_decide_eq_true e)
end Mine
namespace Mine
open PySem.SeqAt PySem.MeetsSeq
open PySem.AutoSeq1 (wpAny_loadPart')

/-- data: what a value stands for -/
inductive D where
  | none
  | bool (b : Bool)
  | int (i : Int)
  | str (x : Str)
  | bytes (b : Array UInt8)
  | tup (ds : List D)
  | list (ds : List D)

mutual
inductive Is (h : Heap) : Value → D → Prop
  | none : Is h Value.none D.none
  | bool (b : Bool) : Is h (Value.bool b) (D.bool b)
  | int (i : Int) (t : Tok) : Is h (Value.int i t) (D.int i)
  | str (x : Str) (t : Tok) : Is h (Value.str x t) (D.str x)
  | bytes (b : Array UInt8) (t : Tok) : Is h (Value.bytes b t) (D.bytes b)
  | tup {a : Addr} {vs : List Value} {ds : List D} : h.IsTuple a vs.toArray → IsAll h vs ds → Is h (Value.ref a) (D.tup ds)
  | list {a : Addr} {vs : List Value} {ds : List D} : h.IsList a vs.toArray → IsAll h vs ds → Is h (Value.ref a) (D.list ds)
inductive IsAll (h : Heap) : List Value → List D → Prop
  | nil : IsAll h [] []
  | cons {v : Value} {vs : List Value} {d : D} {ds : List D} : Is h v d → IsAll h vs ds → IsAll h (v :: vs) (d :: ds)
end

theorem tuple_keeps {h h' : Heap} {a : Addr} {items : Array Value} (x : h.IsTuple a items) (hk : ∀ b o, h.get? b = some o → h'.get? b = some o) : h'.IsTuple a items :=
  let ⟨o, ho, r⟩ := x; ⟨o, hk a o ho, r⟩
theorem list_keeps {h h' : Heap} {a : Addr} {items : Array Value} (x : h.IsList a items) (hk : ∀ b o, h.get? b = some o → h'.get? b = some o) : h'.IsList a items :=
  let ⟨o, ho, r⟩ := x; ⟨o, hk a o ho, r⟩
theorem Is.moves {h h' : Heap} (ht : ∀ a items, h.IsTuple a items → h'.IsTuple a items) (hl : ∀ a items, h.IsList a items → h'.IsList a items) {v : Value} {d : D} (x : Is h v d) : Is h' v d :=
  Is.rec (motive_1 := fun v d _ => Is h' v d) (motive_2 := fun vs ds _ => IsAll h' vs ds) .none .bool .int .str .bytes (fun x _ r => .tup (ht _ _ x) r) (fun x _ r => .list (hl _ _ x) r) .nil (fun _ _ a b => .cons a b) x
theorem Is.keeps {h h' : Heap} (hk : ∀ b o, h.get? b = some o → h'.get? b = some o) {v : Value} {d : D} (x : Is h v d) : Is h' v d := x.moves (fun _ _ x => tuple_keeps x hk) (fun _ _ x => list_keeps x hk)
theorem IsAll.length {h : Heap} {vs : List Value} {ds : List D} (x : IsAll h vs ds) : vs.length = ds.length :=
  IsAll.rec (motive_1 := fun _ _ _ => True) (motive_2 := fun vs ds _ => vs.length = ds.length) trivial (fun _ => trivial) (fun _ _ => trivial) (fun _ _ => trivial) (fun _ _ => trivial) (fun _ _ _ => trivial) (fun _ _ _ => trivial) rfl (fun _ _ _ e => congrArg Nat.succ e) x
theorem IsAll.get {h : Heap} {vs : List Value} {ds : List D} (x : IsAll h vs ds) : ∀ (j : Nat) (h1 : j < vs.length) (h2 : j < ds.length), Is h vs[j] ds[j] :=
  IsAll.rec (motive_1 := fun _ _ _ => True) (motive_2 := fun vs ds _ => ∀ (j : Nat) (h1 : j < vs.length) (h2 : j < ds.length), Is h vs[j] ds[j]) trivial (fun _ => trivial) (fun _ _ => trivial) (fun _ _ => trivial) (fun _ _ => trivial) (fun _ _ _ => trivial) (fun _ _ _ => trivial)
    (fun _ h1 => absurd h1 (Nat.not_lt_zero _)) (fun a _ _ ih j => by
      cases j with
      | zero => exact fun _ _ => a
      | succ j => exact fun h1 h2 => ih j (Nat.lt_of_succ_lt_succ h1) (Nat.lt_of_succ_lt_succ h2)) x

noncomputable def D.depth : D → Nat := @D.rec (fun _ => Nat) (fun _ => Nat) 0 (fun _ => 0) (fun _ => 0) (fun _ => 0) (fun _ => 0) (fun _ i => i + 1) (fun _ i => i + 1) 0 (fun _ _ a b => max a b)
noncomputable def D.depths : List D → Nat := @D.rec_1 (fun _ => Nat) (fun _ => Nat) 0 (fun _ => 0) (fun _ => 0) (fun _ => 0) (fun _ => 0) (fun _ i => i + 1) (fun _ i => i + 1) 0 (fun _ _ a b => max a b)
theorem depths_le {d : D} {r : List D} {n : Nat} (h : D.depths (d :: r) ≤ n) : d.depth ≤ n ∧ D.depths r ≤ n := ⟨Nat.le_trans (Nat.le_max_left _ _) h, Nat.le_trans (Nat.le_max_right _ _) h⟩
theorem depth_of_mem {d : D} {ds : List D} (h : d ∈ ds) : d.depth ≤ D.depths ds :=
  List.Mem.rec (motive := fun ds _ => d.depth ≤ D.depths ds) (fun _ => Nat.le_max_left _ _) (fun _ _ _ ih => Nat.le_trans ih (Nat.le_max_right _ _)) h
/-- keys: nested tuples of ints, strs and bytes -/
noncomputable def D.ok : D → Bool := @D.rec (fun _ => Bool) (fun _ => Bool) false (fun _ => false) (fun _ => true) (fun _ => true) (fun _ => true) (fun _ i => i) (fun _ _ => false) true (fun _ _ a b => a && b)
noncomputable def D.oks : List D → Bool := @D.rec_1 (fun _ => Bool) (fun _ => Bool) false (fun _ => false) (fun _ => true) (fun _ => true) (fun _ => true) (fun _ i => i) (fun _ _ => false) true (fun _ _ a b => a && b)
theorem oks_and {d : D} {r : List D} (h : D.oks (d :: r) = true) : d.ok = true ∧ D.oks r = true := (Bool.and_eq_true _ _).mp h
theorem ok_of_mem {d : D} {ds : List D} (h : d ∈ ds) : D.oks ds = true → d.ok = true :=
  List.Mem.rec (motive := fun ds _ => D.oks ds = true → d.ok = true) (fun _ e => (oks_and e).1) (fun _ _ _ ih e => ih (oks_and e).2) h

section bytes
variable {A : Around} {s : Shared}
theorem sub_bytes_tuple : isSubtype (.type "bytes") (.type "tuple") = pure false := by rw [isSubtype_type]; kernel_rfl
theorem sub_tuple_bytes : isSubtype (.type "tuple") (.type "bytes") = pure false := by rw [isSubtype_type]; kernel_rfl
theorem sub_bytes_str : isSubtype (.type "bytes") (.type "str") = pure false := by rw [isSubtype_type]; kernel_rfl
theorem sub_str_bytes : isSubtype (.type "str") (.type "bytes") = pure false := by rw [isSubtype_type]; kernel_rfl
theorem sub_bytes_int : isSubtype (.type "bytes") (.type "int") = pure false := by rw [isSubtype_type]; kernel_rfl
theorem sub_int_bytes' : isSubtype (.type "int") (.type "bytes") = pure false := by rw [isSubtype_type]; kernel_rfl

theorem eqOfRc {a b : Value} {k : Bool} (hne : a ≠ b) (hf : ∀ x t, a ≠ .float x t) (h : RcAt A s a b k) : EqAt A s a b k := fun prog w E Q hq => by
  unfold eqBool
  refine wpAny_holding ?_
  refine wpAny_ite_split (fun hab => absurd (eq_of_beq hab) hne) (fun _ => ?_)
  cases a <;> first | exact absurd rfl (hf _ _) | exact wpAny_bind (h prog w E _ (wpAny_truthy_bool hq))

theorem eqAt_bytes (b c : Array UInt8) (t u : Tok) : EqAt A s (.bytes b t) (.bytes c u) (b.toList == c.toList) := fun prog w E Q hq =>
  eqBool_bytes ((Bool.eq_iff_iff.mpr (beq_iff_eq.trans decide_eq_true_iff.symm) : (b.toList == c.toList) = decide (b.toList = c.toList)) ▸ hq)

theorem bytes_declines (b : Array UInt8) (t : Tok) (v : Value) (T : String) (hv : s.TypeIs v T) (hs : isSubtype (.type T) (.type "bytes") = pure false) {prog : Program} {w : World} {A : Around} {E : Value → Shared → Prop}
    (Q : Value → Shared → Prop) (hq : Q .notImplemented s) : wpAny (model prog w) A (call (.builtin "bytes.__eq__") [.bytes b t, v]) Q E s := by
  refine wpAny_call_entry FB.slot_bytes_eq (typeIs_bytes s b t) FB.entry_bytes_eq ?_ (FB.args_bytes_eq_2 _ _)
  show wpAny _ _ (isInstance v (.type "bytes") >>= fun r => _) _ E s
  exact wpAny_bind (wpAny_isInstance hv hs (wpAny_bind (wpAny_rule (wpAny_pure ⟨_, rfl, hq⟩))))
theorem int_declines_bytes (x : Int) (u : Tok) (b : Array UInt8) (t : Tok) : Gives (Builtin.«int.__eq__» ⟨[.int x u, .bytes b t], []⟩) (.val (Value.notImplemented)) :=
  .of_wp fun M A E s Q h => by obtain ⟨hp, g, d, tk, os⟩ := s; wp_walk; exact ⟨_, rfl, h⟩
theorem str_declines_bytes (x : Str) (u : Tok) (b : Array UInt8) (t : Tok) : Gives (Builtin.«str.__eq__» ⟨[.str x u, .bytes b t], []⟩) (.val (Value.notImplemented)) :=
  .of_wp fun M A E s Q h => by obtain ⟨hp, g, d, tk, os⟩ := s; wp_walk; exact ⟨_, rfl, h⟩
theorem tuple_declines_bytes (l : Addr) (items : Array Value) (n : Nat) (dd : Option Addr) (sl : Array (Option Value)) (b : Array UInt8) (t : Tok) :
    Meets (Builtin.«tuple.__eq__» ⟨[.ref l, .bytes b t], []⟩) (fun _ R s => s.heap.get? l = some { cls := .type "tuple", dict := dd, data := .seq items n, slots := sl } ∧ R (.ok (.ret .notImplemented)) s) :=
  .of_wp fun prog w A R s h => by obtain ⟨hp, g, d, tk, os⟩ := s; obtain ⟨hl, h⟩ := h; have f1 := sub_bytes_tuple; wp_walk using wpAny_loadPart' hl; exact ⟨_, rfl, h⟩

theorem same_no {a b : Value} {E : Value → Shared → Prop} {prog : Program} {w : World} {Q : Bool → Shared → Prop} (e : isSame a b = pure false) (hq : Q false s) : wpAny (model prog w) A (isSame a b) Q E s := wpAny_of_eq e hq
theorem rc_bytes_int (b : Array UInt8) (t : Tok) (x : Int) (u : Tok) : RcAt A s (.bytes b t) (.int x u) false := fun prog w E Q h =>
  rc_eq_decline_or (k := false) (typeIs_bytes s b t) (typeIs_int s x u) (by decide) sub_int_bytes' FB.slot_bytes_eq F.slot_int_eq_refl
    (fun _ hq => bytes_declines b t (.int x u) "int" (typeIs_int s x u) sub_int_bytes' _ hq)
    (fun _ hq => call_gives F.slot_int_eq_refl (typeIs_int s x u) F.entry_int_eq (F.args_int_eq_2 _ _) (int_declines_bytes x u b t) hq)
    (fun _ hq => same_no rfl hq) (.inl rfl) h
theorem rc_int_bytes (b : Array UInt8) (t : Tok) (x : Int) (u : Tok) : RcAt A s (.int x u) (.bytes b t) false := fun prog w E Q h =>
  rc_eq_decline_or (k := false) (typeIs_int s x u) (typeIs_bytes s b t) (by decide) sub_bytes_int F.slot_int_eq FB.slot_bytes_eq
    (fun _ hq => call_gives F.slot_int_eq (typeIs_int s x u) F.entry_int_eq (F.args_int_eq_2 _ _) (int_declines_bytes x u b t) hq)
    (fun _ hq => bytes_declines b t (.int x u) "int" (typeIs_int s x u) sub_int_bytes' _ hq)
    (fun _ hq => same_no rfl hq) (.inl rfl) h
theorem rc_bytes_str (b : Array UInt8) (t : Tok) (x : Str) (u : Tok) : RcAt A s (.bytes b t) (.str x u) false := fun prog w E Q h =>
  rc_eq_decline_or (k := false) (typeIs_bytes s b t) (typeIs_str s x u) (by decide) sub_str_bytes FB.slot_bytes_eq F.slot_str_eq_refl
    (fun _ hq => bytes_declines b t (.str x u) "str" (typeIs_str s x u) sub_str_bytes _ hq)
    (fun _ hq => call_gives F.slot_str_eq_refl (typeIs_str s x u) F.entry_str_eq (F.args_str_eq_2 _ _) (str_declines_bytes x u b t) hq)
    (fun _ hq => same_no rfl hq) (.inl rfl) h
theorem rc_str_bytes (b : Array UInt8) (t : Tok) (x : Str) (u : Tok) : RcAt A s (.str x u) (.bytes b t) false := fun prog w E Q h =>
  rc_eq_decline_or (k := false) (typeIs_str s x u) (typeIs_bytes s b t) (by decide) sub_bytes_str F.slot_str_eq FB.slot_bytes_eq
    (fun _ hq => call_gives F.slot_str_eq (typeIs_str s x u) F.entry_str_eq (F.args_str_eq_2 _ _) (str_declines_bytes x u b t) hq)
    (fun _ hq => bytes_declines b t (.str x u) "str" (typeIs_str s x u) sub_str_bytes _ hq)
    (fun _ hq => same_no rfl hq) (.inl rfl) h
theorem rc_bytes_tuple {l : Addr} {items : Array Value} (b : Array UInt8) (t : Tok) (hl : s.heap.IsTuple l items) (hu : A.units < cLine) : RcAt A s (.bytes b t) (.ref l) false := fun prog w E Q h => by
  obtain ⟨⟨cls, dd, data, sl⟩, ho, hc, n, hd⟩ := id hl
  cases hc; cases hd
  exact rc_eq_decline_or (k := false) (typeIs_bytes s b t) ⟨_, ho, rfl⟩ (by decide) sub_tuple_bytes FB.slot_bytes_eq F.slot_tuple_eq_refl
    (fun _ hq => bytes_declines b t (.ref l) "tuple" ⟨_, ho, rfl⟩ sub_tuple_bytes _ hq)
    (fun _ hq => call_meets F.slot_tuple_eq_refl ⟨_, ho, rfl⟩ F.entry_tuple_eq (F.args_tuple_eq_2 _ _) (tuple_declines_bytes l items n dd sl b t) ⟨ho, hq⟩)
    (fun _ hq => same_no rfl hq) (.inr hu) h
theorem rc_tuple_bytes {l : Addr} {items : Array Value} (b : Array UInt8) (t : Tok) (hl : s.heap.IsTuple l items) (hu : A.units < cLine) : RcAt A s (.ref l) (.bytes b t) false := fun prog w E Q h => by
  obtain ⟨⟨cls, dd, data, sl⟩, ho, hc, n, hd⟩ := id hl
  cases hc; cases hd
  exact rc_eq_decline_or (k := false) ⟨_, ho, rfl⟩ (typeIs_bytes s b t) (by decide) sub_bytes_tuple F.slot_tuple_eq FB.slot_bytes_eq
    (fun _ hq => call_meets F.slot_tuple_eq ⟨_, ho, rfl⟩ F.entry_tuple_eq (F.args_tuple_eq_2 _ _) (tuple_declines_bytes l items n dd sl b t) ⟨ho, hq⟩)
    (fun _ hq => bytes_declines b t (.ref l) "tuple" ⟨_, ho, rfl⟩ sub_tuple_bytes _ hq)
    (fun _ hq => same_no rfl hq) (.inr hu) h
end bytes

theorem room_in {A : Around} {m : Nat} (h : A.units + (m + 1) < cLine) : A.in1.units + m < cLine := (Nat.add_right_comm A.units 1 m ▸ h : A.units + 1 + m < cLine)
theorem room_here {A : Around} {m : Nat} (h : A.units + m < cLine) : A.units < cLine := Nat.lt_of_le_of_lt (Nat.le_add_right _ _) h
theorem room_less {A : Around} {m k : Nat} (h : A.units + m < cLine) (e : k ≤ m) : A.units + k < cLine := Nat.lt_of_le_of_lt (Nat.add_le_add_left e _) h

theorem tuple_inj {h : Heap} {a : Addr} {vs ws : List Value} (x : h.IsTuple a vs.toArray) (y : h.IsTuple a ws.toArray) : vs = ws := by
  obtain ⟨o, ho, _, k, hk⟩ := x
  obtain ⟨o', ho', _, k', hk'⟩ := y
  have e := (congrArg Obj.data (Option.some.inj (ho.symm.trans ho'))).symm
  rw [hk, hk'] at e
  exact (congrArg Array.toList (Data.seq.inj e).1).symm
theorem list_inj {h : Heap} {a : Addr} {vs ws : List Value} (x : h.IsList a vs.toArray) (y : h.IsList a ws.toArray) : vs = ws := by
  obtain ⟨o, ho, _, k, hk⟩ := x
  obtain ⟨o', ho', _, k', hk'⟩ := y
  have e := (congrArg Obj.data (Option.some.inj (ho.symm.trans ho'))).symm
  rw [hk, hk'] at e
  exact (congrArg Array.toList (Data.seq.inj e).1).symm
theorem tuple_list {h : Heap} {a : Addr} {vs ws : Array Value} (x : h.IsTuple a vs) (y : h.IsList a ws) : False := by
  obtain ⟨o, ho, hc, _⟩ := x
  obtain ⟨o', ho', hc', _⟩ := y
  exact absurd (Value.type.inj (hc.symm.trans ((congrArg Obj.cls (Option.some.inj (ho.symm.trans ho'))).trans hc'))) (by decide)
/-- a value stands for one datum -/
theorem Is.inj {h : Heap} {v : Value} {d : D} (x : Is h v d) : ∀ {e : D}, Is h v e → d = e :=
  Is.rec (motive_1 := fun v d _ => ∀ {e : D}, Is h v e → d = e) (motive_2 := fun vs ds _ => ∀ {es : List D}, IsAll h vs es → ds = es)
    (fun y => by cases y; rfl) (fun _ _ y => by cases y; rfl) (fun _ _ _ y => by cases y; rfl) (fun _ _ _ y => by cases y; rfl) (fun _ _ _ y => by cases y; rfl)
    (fun t1 _ ih _ y => by
      cases y with
      | tup t2 a2 => exact congrArg D.tup (ih (tuple_inj t2 t1 ▸ a2))
      | list t2 _ => exact (tuple_list t1 t2).elim)
    (fun t1 _ ih _ y => by
      cases y with
      | list t2 a2 => exact congrArg D.list (ih (list_inj t2 t1 ▸ a2))
      | tup t2 _ => exact (tuple_list t2 t1).elim)
    (fun y => by cases y; rfl)
    (fun _ _ i1 i2 _ y => by
      cases y with
      | cons b q => rw [i1 b, i2 q]) x

section eq
open Classical
theorem eqF {A : Around} {s : Shared} {u v : Value} {d e : D} (h : EqAt A s u v false) (ne : d ≠ e) : EqAt A s u v (decide (d = e)) := (decide_eq_false ne).symm ▸ h
theorem eqB {A : Around} {s : Shared} {u v : Value} {d e : D} {b : Bool} (h : EqAt A s u v b) (i : b = true ↔ d = e) : EqAt A s u v (decide (d = e)) := (Bool.eq_iff_iff.mpr (i.trans decide_eq_true_iff.symm)) ▸ h
theorem all_dec (a b : List D) : ((List.range (min a.length b.length)).all (fun j => decide (a[j]? = b[j]?)) && a.length == b.length) = true ↔ D.tup a = D.tup b := by
  refine ⟨fun h => ?_, fun h => ?_⟩
  · obtain ⟨h, l⟩ := (Bool.and_eq_true _ _).mp h
    have l := beq_iff_eq.mp l
    refine congrArg D.tup (List.ext_getElem? fun j => ?_)
    by_cases q : j < a.length
    · exact of_decide_eq_true (List.all_eq_true.mp h j (List.mem_range.mpr (Nat.lt_min.mpr ⟨q, l ▸ q⟩)))
    · rw [List.getElem?_eq_none (Nat.le_of_not_lt q), List.getElem?_eq_none (l ▸ Nat.le_of_not_lt q)]
  · cases D.tup.inj h
    exact (Bool.and_eq_true _ _).mpr ⟨List.all_eq_true.mpr fun _ _ => decide_eq_true rfl, beq_self_eq_true _⟩
theorem eq_D {s : Shared} {u : Value} {d : D} (x : Is s.heap u d) : ∀ {A : Around} {v : Value} {e : D}, d.ok = true → e.ok = true → Is s.heap v e → A.units + d.depth < cLine → EqAt A s u v (decide (d = e)) := by
  refine Is.rec (motive_1 := fun u d _ => ∀ {A : Around} {v : Value} {e : D}, d.ok = true → e.ok = true → Is s.heap v e → A.units + d.depth < cLine → EqAt A s u v (decide (d = e)))
    (motive_2 := fun us ds _ => ∀ {A : Around} {vs : List Value} {es : List D}, D.oks ds = true → D.oks es = true → IsAll s.heap vs es → A.units + D.depths ds < cLine → ∀ (j : Nat) (h1 : j < us.length) (h2 : j < vs.length), EqAt A s us[j] vs[j] (decide (ds[j]? = es[j]?)))
    (fun ok => by cases ok) (fun _ _ _ _ ok => by cases ok) (fun a u A v e _ ok' y hu => ?_) (fun a u A v e _ ok' y hu => ?_) (fun a u A v e _ ok' y hu => ?_) (fun {a us ds} t1 a1 ih A v e ok ok' y hu => ?_) (fun _ _ _ _ _ _ ok => by cases ok) (fun _ _ _ _ _ h1 => absurd h1 (Nat.not_lt_zero _))
    (fun _ _ i1 i2 A vs es ok ok' y hu => ?_) x
  · cases y with
    | none => cases ok'
    | bool => cases ok'
    | list => cases ok'
    | int b t => exact eqB (.int_int a u b t) (beq_iff_eq.trans ⟨congrArg D.int, D.int.inj⟩)
    | str b t => exact eqF (.int_str a u b t) nofun
    | bytes b t => exact eqF (eqOfRc nofun nofun (rc_int_bytes b t a u)) nofun
    | tup t _ => exact eqF (.int_tuple a u t hu) nofun
  · cases y with
    | none => cases ok'
    | bool => cases ok'
    | list => cases ok'
    | int b t => exact eqF (.str_int a u b t) nofun
    | str b t => exact eqB (.str_str a u b t) (beq_iff_eq.trans ⟨congrArg D.str, D.str.inj⟩)
    | bytes b t => exact eqF (eqOfRc nofun nofun (rc_str_bytes b t a u)) nofun
    | tup t _ => exact eqF (.str_tuple a u t hu) nofun
  · cases y with
    | none => cases ok'
    | bool => cases ok'
    | list => cases ok'
    | int b t => exact eqF (eqOfRc nofun nofun (rc_bytes_int a u b t)) nofun
    | str b t => exact eqF (eqOfRc nofun nofun (rc_bytes_str a u b t)) nofun
    | bytes b t => exact eqB (eqAt_bytes a b u t) (beq_iff_eq.trans ⟨fun e => congrArg D.bytes (Array.toList_inj.mp e), fun e => congrArg Array.toList (D.bytes.inj e)⟩)
    | tup t _ => exact eqF (eqOfRc nofun nofun (rc_bytes_tuple a u t hu)) nofun
  · have hu' := room_here hu
    cases y with
    | none => cases ok'
    | bool => cases ok'
    | list => cases ok'
    | int b t => exact eqF (.tuple_int b t t1 hu') nofun
    | str b t => exact eqF (.tuple_str b t t1 hu') nofun
    | bytes b t => exact eqF (eqOfRc nofun nofun (rc_tuple_bytes b t t1 hu')) nofun
    | @tup b ws es t2 a2 =>
      by_cases hab : a = b
      · subst hab
        exact (decide_eq_true (Is.inj (.tup t1 a1) (.tup t2 a2))).symm ▸ .same _
      · exact eqB (.of_refs hab (RcAt.tuples (e := fun j => decide (ds[j]? = es[j]?)) t1 t2 hu' (ih ok ok' a2 (room_in hu)))) (by
          rw [List.size_toArray, List.size_toArray, a1.length, a2.length]; exact all_dec ds es)
  · cases y with
    | nil => exact fun _ _ h2 => absurd h2 (Nat.not_lt_zero _)
    | cons b q =>
      intro j
      cases j with
      | zero => exact fun _ _ => decide_eq_decide.mpr ⟨congrArg some, Option.some.inj⟩ ▸ i1 (oks_and ok).1 (oks_and ok').1 b (room_less hu (Nat.le_max_left _ _))
      | succ j => exact fun h1 h2 => i2 (oks_and ok).2 (oks_and ok').2 q (room_less hu (Nat.le_max_right _ _)) j (Nat.lt_of_succ_lt_succ h1) (Nat.lt_of_succ_lt_succ h2)
end eq
theorem all_true (l : List Nat) : (l.all fun _ => true) = true := List.all_eq_true.mpr fun _ _ => rfl
theorem beq_yes {α : Type} [BEq α] [LawfulBEq α] {A : Around} {s : Shared} {u v : Value} {a : α} (h : RcAt A s u v (a == a)) : RcAt A s u v true := beq_self_eq_true a ▸ h
theorem eq_of_rc {A : Around} {s : Shared} {u v : Value} {d : D} (x : Is s.heap u d) (h : RcAt A s u v true) : EqAt A s u v true := by
  by_cases q : u = v
  · exact q ▸ .same _
  · exact eqOfRc q (fun _ _ e => by cases e; cases x) h
/-- same datum: equal -/
theorem rc_same {s : Shared} {u : Value} {d : D} (x : Is s.heap u d) : ∀ {A : Around} {v : Value}, Is s.heap v d → A.units + d.depth < cLine → RcAt A s u v true :=
  Is.rec (motive_1 := fun u d _ => ∀ {A : Around} {v : Value}, Is s.heap v d → A.units + d.depth < cLine → RcAt A s u v true)
    (motive_2 := fun us ds _ => ∀ {A : Around} {vs : List Value}, IsAll s.heap vs ds → A.units + D.depths ds < cLine → ∀ (j : Nat) (h1 : j < us.length) (h2 : j < vs.length), EqAt A s us[j] vs[j] true)
    (fun y _ => by cases y; exact .none_none) (fun b _ _ y _ => by cases y; exact beq_yes (.bool_bool b b)) (fun i t _ _ y _ => by cases y; exact beq_yes (.int_int i t i _)) (fun x t _ _ y _ => by cases y; exact beq_yes (.str_str x t x _))
    (fun b t _ _ y _ => by cases y; exact fun prog w E Q h => PySem.W.eq_bytes (beq_self_eq_true b.toList ▸ h))
    (fun t1 a1 ih _ _ y hu => by
      cases y with
      | tup t2 a2 =>
        have k := RcAt.tuples (e := fun _ => true) t1 t2 (room_here hu) (ih a2 (room_in hu))
        rw [all_true, List.size_toArray, List.size_toArray, a1.length, a2.length, beq_self_eq_true] at k
        exact k)
    (fun t1 a1 ih _ _ y hu => by
      cases y with
      | list t2 a2 =>
        have k := RcAt.lists (e := fun _ => true) t1 t2 (a1.length.trans a2.length.symm) (room_here hu) (ih a2 (room_in hu))
        rw [all_true] at k
        exact k)
    (fun _ _ _ h1 => absurd h1 (Nat.not_lt_zero _))
    (fun a _ i1 i2 _ _ y hu => by
      cases y with
      | cons b q =>
        intro j
        cases j with
        | zero => exact fun _ _ => eq_of_rc a (i1 b (room_less hu (Nat.le_max_left _ _)))
        | succ j => exact fun h1 h2 => i2 q (room_less hu (Nat.le_max_right _ _)) j (Nat.lt_of_succ_lt_succ h1) (Nat.lt_of_succ_lt_succ h2)) x
end Mine
namespace Mine
open PySem.SeqAt PySem.MeetsSeq
open PySem.AutoSeq1 (wpAny_loadPart')
section
variable (prog : Program) (w : World)
noncomputable def hashD : D → Int := @D.rec (fun _ => Int) (fun _ => List Int) 0 (fun _ => 0) (intKind prog w).hash (strKind prog w).hash (fun b => (bytesKind prog w).hash b.toList) (fun _ hs => reduceHash (Builtin.Tuple.tupleHashOf hs)) (fun _ _ => 0) [] (fun _ _ a b => a :: b)
noncomputable def hashDs : List D → List Int := @D.rec_1 (fun _ => Int) (fun _ => List Int) 0 (fun _ => 0) (intKind prog w).hash (strKind prog w).hash (fun b => (bytesKind prog w).hash b.toList) (fun _ hs => reduceHash (Builtin.Tuple.tupleHashOf hs)) (fun _ _ => 0) [] (fun _ _ a b => a :: b)
end
noncomputable def D.draws : D → Nat := @D.rec (fun _ => Nat) (fun _ => Nat) 1 (fun _ => 1) (fun _ => 1) (fun _ => 1) (fun _ => 1) (fun _ i => i + 1) (fun _ _ => 1) 0 (fun _ _ a b => a + b)
noncomputable def D.drawss : List D → Nat := @D.rec_1 (fun _ => Nat) (fun _ => Nat) 1 (fun _ => 1) (fun _ => 1) (fun _ => 1) (fun _ => 1) (fun _ i => i + 1) (fun _ _ => 1) 0 (fun _ _ a b => a + b)

section
variable {prog : Program} {w : World}
theorem acc_cons (acc : Array Int) (x : Int) (l : List Int) : acc.push x ++ l.toArray = acc ++ (x :: l).toArray := Array.ext' (by rw [Array.toList_append, Array.toList_push, Array.toList_append, List.append_assoc]; rfl)
theorem quiet_val {A : Around} {E : Value → Shared → Prop} {s : Shared} {n : Nat} {v : Value} {Q : Bool → Shared → Prop} (h : carriedByValue v = true) (q : Q true s) : wpAny (model prog w) A (eqIsQuiet n v) Q E s := by rw [eqIsQuiet_byValue _ h]; exact wpAny_pure q
theorem pyHash_D {h : Heap} {v : Value} {d : D} (x : Is h v d) : ∀ {A : Around} {E : Value → Shared → Prop} {s : Shared} {Q : Int → Shared → Prop}, s.heap = h → d.ok = true → A.units + d.depth < cLine → Q (hashD prog w d) { s with toks := s.toks + d.draws } → wpAny (model prog w) A (pyHash v) Q E s := by
  refine Is.rec (motive_1 := fun v d _ => ∀ {A : Around} {E : Value → Shared → Prop} {s : Shared} {Q : Int → Shared → Prop}, s.heap = h → d.ok = true → A.units + d.depth < cLine → Q (hashD prog w d) { s with toks := s.toks + d.draws } → wpAny (model prog w) A (pyHash v) Q E s)
    (motive_2 := fun vs ds _ => ∀ {A : Around} {E : Value → Shared → Prop} {s : Shared} {acc : Array Int} {Q : Array Int → Shared → Prop}, s.heap = h → D.oks ds = true → A.units + D.depths ds < cLine → Q (acc ++ (hashDs prog w ds).toArray) { s with toks := s.toks + D.drawss ds } → wpAny (model prog w) A (forIn vs acc fun x (hs : Array Int) => do let h ← pyHash x; pure (ForInStep.yield (hs.push h))) Q E s)
    (fun _ ok => by cases ok) (fun _ _ _ _ _ _ ok => by cases ok) (fun i t _ _ _ _ _ _ _ q => (intKind prog w).pyHash (k := i) (intKind_is prog w i t) q) (fun x t _ _ _ _ _ _ _ q => (strKind prog w).pyHash (k := x) (strKind_is prog w x t) q)
    (fun b t _ _ _ _ _ _ _ q => (bytesKind prog w).pyHash (k := b.toList) (beq_self_eq_true b.toList) q) (fun {a vs ds} t1 _ ih A E s Q e ok hu q => ?_) (fun _ _ _ _ _ _ _ _ ok => by cases ok)
    (fun {A E s acc Q} _ _ _ q => wpAny_pure (by rw [← Array.append_empty (xs := acc)]; exact q)) (fun {v vs d ds} _ _ i1 i2 A E s acc Q e ok hu q => ?_) x
  · obtain ⟨o, ho, hc, k, hdat⟩ := id t1
    rw [← e] at ho
    refine pyHash_slot (T := "tuple") ⟨o, ho, hc⟩ F.slot_tuple_hash F.entry_tuple_hash (F.args_tuple_hash_1 _) (beq_builtin_none _) (.inr (room_here hu)) ?_
    show wpAny _ _ (Builtin.Tuple.tupleItemsOf (.ref a) >>= _) _ _ s
    refine wpAny_bind (wpAny_tupleItemsOf ho hdat ?_)
    refine wpAny_bind ?_
    rw [← Array.forIn_toList]
    refine ih e ok (room_in hu) ?_
    show wpAny _ _ (retInt (Builtin.Tuple.tupleHashOf _)) _ _ _
    rw [Array.empty_append, List.toList_toArray]
    exact wpAny_bind (wpAny_mkInt (wpAny_pure ⟨_, _, rfl, q⟩))
  · rw [List.forIn_cons]
    refine wpAny_bind (wpAny_bind (i1 e (oks_and ok).1 (room_less hu (Nat.le_max_left _ _)) (wpAny_pure ?_)))
    refine i2 e (oks_and ok).2 (room_less hu (Nat.le_max_right _ _)) ?_
    rw [acc_cons]
    exact (Nat.add_assoc s.toks d.draws (D.drawss ds)).symm ▸ q

theorem quiet_D {s : Shared} {A : Around} {v : Value} {d : D} (x : Is s.heap v d) : ∀ {n : Nat} {E : Value → Shared → Prop} {Q : Bool → Shared → Prop}, d.depth ≤ n → d.ok = true → Q true s → wpAny (model prog w) A (eqIsQuiet n v) Q E s := by
  refine Is.rec (motive_1 := fun v d _ => ∀ {n : Nat} {E : Value → Shared → Prop} {Q : Bool → Shared → Prop}, d.depth ≤ n → d.ok = true → Q true s → wpAny (model prog w) A (eqIsQuiet n v) Q E s)
    (motive_2 := fun vs ds _ => ∀ {n : Nat}, D.depths ds ≤ n → D.oks ds = true → ∀ v ∈ vs, ∀ {E : Value → Shared → Prop} {Q : Bool → Shared → Prop}, Q true s → wpAny (model prog w) A (eqIsQuiet n v) Q E s)
    (fun _ ok => by cases ok) (fun _ _ _ _ _ ok => by cases ok) (fun i t _ _ _ _ _ q => quiet_val rfl q) (fun x t _ _ _ _ _ q => quiet_val rfl q)
    (fun b t _ _ _ _ _ q => quiet_val rfl q) (fun {a vs ds} t1 _ ih n E Q hd ok q => ?_) (fun _ _ _ _ _ _ _ ok => by cases ok)
    (fun _ _ _ h => nomatch h) (fun {v vs d ds} _ _ i1 i2 n hd ok u hu E Q q => ?_) x
  · obtain ⟨o, ho, hc, k, hdat⟩ := id t1
    have hT : s.TypeIs (.ref a) "tuple" := ⟨o, ho, hc⟩
    cases n with
    | zero => cases hd
    | succ n =>
      unfold eqIsQuiet
      refine wpAny_bind (wpAny_specialOf hT F.slot_tuple_eq.lookup ?_)
      show wpAny _ _ (isInstance (.ref a) (.type "tuple") >>= _) _ _ s
      refine wpAny_bind (wpAny_isInstance hT isSubtype_tuple_tuple ?_)
      simp only [Bool.not_true, Bool.false_eq_true, if_false]
      refine wpAny_bind (wpAny_seqItems ho hdat ?_)
      refine wpAny_bind ?_
      show wpAny _ _ (forIn vs.toArray _ _) _ _ s
      rw [← Array.forIn_toList]
      have all := ih (Nat.le_of_succ_le_succ hd) ok
      refine wpAny_forIn_list _ (fun rest r s' => r.1 = none ∧ s' = s ∧ ∀ v ∈ rest, v ∈ vs) _ ?_ ?_ _ _ ⟨rfl, rfl, fun _ h => h⟩
      · rintro v rest r s' ⟨hr, rfl, hx⟩
        refine wpAny_bind (all v (hx v (.head _)) ?_)
        simp only [Bool.not_true, Bool.false_eq_true, if_false]
        exact wpAny_pure ⟨rfl, rfl, fun v h => hx v (.tail _ h)⟩
      · rintro ⟨r1, r2⟩ s' ⟨hr, rfl, _⟩
        cases hr
        exact wpAny_pure q
  · cases hu with
    | head => exact i1 (depths_le hd).1 (oks_and ok).1 q
    | tail _ m => exact i2 (depths_le hd).2 (oks_and ok).2 u m q
end

theorem but_ne {h : Heap} {a d : Addr} {o o' : Obj} {es ep items n} (ho : h.get? d = some o) (hd : o.data = .dict es ep) (ho' : h.get? a = some o') (hn : o'.data = .seq items n) : a ≠ d := fun e => by
  have := hn.symm.trans ((congrArg Obj.data (Option.some.inj (ho'.symm.trans (e ▸ ho)))).trans hd)
  cases this

open Classical in
/-- keys of a dict: nested tuples of ints, strs and bytes -/
noncomputable def dKind (prog : Program) (w : World) : HeapKind prog w D where
  is := fun h d a => Is h (.ref a) d ∧ d.ok = true ∧ d.depth ≤ 8
  hash := hashD prog w
  draws := D.draws
  room := fun A => A.units + 16 < cLine
  inj := fun hx hy => hx.1.inj hy.1
  keeps := fun x ho hd hs => ⟨x.1.moves (fun a _ ⟨o', ho', hc, n, hn⟩ => ⟨o', (hs.2 a (but_ne ho hd ho' hn)).trans ho', hc, n, hn⟩) (fun a _ ⟨o', ho', hc, n, hn⟩ => ⟨o', (hs.2 a (but_ne ho hd ho' hn)).trans ho', hc, n, hn⟩), x.2⟩
  pyHash := fun hu hk h => pyHash_D hk.1 rfl hk.2.1 (room_less hu (Nat.le_trans hk.2.2 (Nat.le_of_ble_eq_true rfl))) h
  eqBool := fun {A E s x y a b Q} hu hx hy h => eq_D hx.1 hx.2.1 hy.2.1 hy.1 (room_less hu (Nat.le_trans hx.2.2 (Nat.le_of_ble_eq_true rfl))) prog w E Q h
  quiet := fun hk h => quiet_D hk.1 hk.2.2 hk.2.1 h
end Mine
namespace Mine
noncomputable abbrev KF := hd.heap_1
abbrev PR : Program := PySem.Challenge.rw_lo0042_01.prog
abbrev tA (dp un : Nat) (gd : Option (List Code)) (fr : Option (List Env)) : Around := { handled := none, depth := dp, frames := fr, guards := gd, units := un }
abbrev tupO (vs : List Value) : Obj := { cls := .type "tuple", data := .seq vs.toArray }

section gen
variable {prog : Program} {w : World} {A : Around} {E : Value → Shared → Prop} {s : Shared} {K : Frag} {p : Program} {loose : List Str} {mean : ExcName → Option Value} {mg mb : Str → Option Value} {R : Result → Shared → Prop}
/-- a def is entered from any state: everything that stands is the ground -/
theorem enterC {name qual : Str} {params : Arguments} {body : List Stmt} {scope : Scope} {dV kV doc pm cdv ct oc : Value} {an od : Option Addr} {osl : Array (Option Value)} {f : Addr} {args : Args} {binds : List (Str × Value)}
    (X : K.In s.heap) (T : Top p loose mean mg mb s.heap) (hroom : A.depth < recursionLimit)
    (ho : K.lookup f = some ⟨oc, od, .func (fnOf name qual params body scope dV kV doc pm an cdv ct), osl⟩) (hcd : codeIn K cdv qual = true)
    (hbind : BindsTo s (fnOf name qual params body scope dV kV doc pm an cdv ct) args binds) (hloc : ∀ y ∈ binds, scope.names.lookup y.1 = some .local)
    (h : ∀ g h₁ L', g = s.heap → L' = s.heap.objs.size → Fr g L' h₁ (fun y => binds.reverse.lookup y) → News g L' h₁ [] → K.In g → Top p loose mean mg mb g →
      wpAny (model prog w) (A.deeper (envOf qual scope L' f cdv)) (execs body (envOf qual scope L' f cdv))
        (fun fl s' => R (.ok (.ret (match fl with | .ret v => v | _ => .none))) s')
        (fun e s' => wpAny (model prog w) (A.deeper (envOf qual scope L' f cdv)) (leaving (envOf qual scope L' f cdv) e) (fun _ s'' => R (.error e) s'') (fun e' s'' => R (.error e') s'') s')
        { s with heap := h₁, toks := s.toks + binds.length })
    (hco : scope.isCoroutine = false) (hgen : scope.isGenerator = false) (hk : scope.kind = .function)
    (hcell : ∀ x ∈ scope.names, x.2 ≠ .cell) : codeAny (model prog w) A (.call (.ref f) args) R s := by
  refine codeAny_call_def (fd := fnOf name qual params body scope dV kV doc pm an cdv ct) (body := body) (binds := binds) hroom (X _ _ ho) rfl T.nolimit (codeRec_of X hcd) rfl hbind hcell hloc (fun h₁ hns hk₁ => ?_) hco hgen hk
  exact h s.heap h₁ _ rfl rfl ⟨hns, hk₁, Nat.le_refl _⟩ News.nil X T

theorem groundN {h₀ : Heap} {L : Addr} {m : Str → Option Value} {news : List (Addr × Obj)} (F : Fr h₀ L s.heap m) (N : News h₀ L s.heap news) :
    Fr h₀ L (hideAll s.heap (news.map (·.1))) m ∧ h₀.StaysIn (hideAll s.heap (news.map (·.1))) ∧ ∀ v s', LeaveK h₀ L m (hideAll s.heap (news.map (·.1))) R v s' → R (.ok (.ret v)) s' := by
  have nm : ∀ b o, h₀.get? b = some o → b ∉ news.map (·.1) := fun b o e q => by
    obtain ⟨p, hp, rfl⟩ := List.mem_map.mp q
    rw [(N p hp).2.2] at e; cases e
  have st : ∀ b o, h₀.get? b = some o → (hideAll s.heap (news.map (·.1))).get? b = some o := fun b o e => hideAll_get _ (F.keep b o e) (nm b o e)
  obtain ⟨oL, es, ep, hL, hLd, hLk, hLf⟩ := F.ns
  have nL : L ∉ news.map (·.1) := fun q => by
    obtain ⟨p, hp, e⟩ := List.mem_map.mp q
    exact (N p hp).2.1 e
  have hLg := hideAll_get (news.map (·.1)) hL nL
  refine ⟨⟨⟨oL, es, ep, hLg, hLd, hLk, hLf⟩, st, F.above⟩, st, fun v s' hl => ?_⟩
  obtain ⟨L', m', news', F', N', k⟩ := hl
  refine k ⟨⟨oL, es, ep, F'.keep L oL hLg, hLd, hLk, hLf⟩, fun b o e => F'.keep b o (st b o e), F.above⟩ fun p hp => ⟨(N' p hp).1, fun q => ?_, ?_⟩
  · have := (N' p hp).2.2; rw [q, hLg] at this; cases this
  · cases q : h₀.get? p.1 with
    | none => rfl
    | some o => have := (N' p hp).2.2; rw [st _ _ q] at this; cases this
/-- as code_def, with nothing said of the frames below (for defs that raise nothing) -/
theorem code_defN {h₀ : Heap} {L : Addr} {m : Str → Option Value} {news : List (Addr × Obj)} {name qual : Str} {params : Arguments} {body : List Stmt} {scope : Scope} {dV kV doc pm cdv ct oc : Value} {an od : Option Addr} {osl : Array (Option Value)} {f : Addr} {args : Args} {binds : List (Str × Value)}
    (F : Fr h₀ L s.heap m) (X₀ : K.In h₀) (N : News h₀ L s.heap news) (T : Top p loose mean mg mb h₀)
    (ho : K.lookup f = some ⟨oc, od, .func (fnOf name qual params body scope dV kV doc pm an cdv ct), osl⟩) (hcd : codeIn K cdv qual = true) (hroom : A.depth < recursionLimit)
    (hbind : BindsTo s (fnOf name qual params body scope dV kV doc pm an cdv ct) args binds) (hloc : ∀ y ∈ binds, scope.names.lookup y.1 = some .local)
    (h : ∀ g L' h₁, Fr h₀ L g m → Fr g L' h₁ (fun y => binds.reverse.lookup y) → News g L' h₁ news → K.In g → Top p loose mean mg mb g →
      wpAny (model prog w) (A.deeper (envOf qual scope L' f cdv)) (execs body (envOf qual scope L' f cdv))
        (fun fl s' => LeaveK h₀ L m g R (match fl with | .ret v => v | _ => .none) s')
        (fun e s' => wpAny (model prog w) (A.deeper (envOf qual scope L' f cdv)) (leaving (envOf qual scope L' f cdv) e) (fun _ s'' => R (.error e) s'') (fun e' s'' => R (.error e') s'') s')
        { s with heap := h₁, toks := s.toks + binds.length })
    (hco : scope.isCoroutine = false) (hgen : scope.isGenerator = false) (hk : scope.kind = .function)
    (hcell : ∀ x ∈ scope.names, x.2 ≠ .cell) : codeAny (model prog w) A (.call (.ref f) args) R s := by
  have X := X₀.keeps F.keep
  obtain ⟨FG, st, lv⟩ := groundN (R := R) F N
  refine codeAny_call_def (fd := fnOf name qual params body scope dV kV doc pm an cdv ct) (body := body) (binds := binds) hroom (X _ _ ho) rfl (T.nolimit.keeps F.keep) (codeRec_of X hcd) rfl hbind hcell hloc (fun h₁ hns hk₁ => ?_) hco hgen hk
  exact wpAny_mono (h _ s.heap.objs.size h₁ FG ⟨hns, fun b o e => hk₁ b o (of_hideAll _ e), Nat.le_of_eq (hideAll_size _ _)⟩
    (fun p hp => ⟨hk₁ _ _ (N p hp).1, Nat.ne_of_lt (Heap.lt_size (N p hp).1), hideAll_none _ (List.mem_map_of_mem hp)⟩) (X₀.keeps st) (T.keeps st)) (fun fl s' hl => lv _ _ hl) fun _ _ y => y
/-- as kp_rest, with nothing said of the frames below -/
theorem restN {h₀ : Heap} {L : Addr} {m : Str → Option Value} {news : List (Addr × Obj)} {name qual : Str} {params : Arguments} {body : List Stmt} {scope : Scope} {dV kV doc pm cdv ct oc : Value} {an od : Option Addr} {osl : Array (Option Value)} {f : Addr} {args : Args} {vs : List Value} {g₁ : Addr → Option (List (Str × Value))} {binds : Addr → List (Str × Value)}
    (F : Fr h₀ L s.heap m) (X₀ : K.In h₀) (N : News h₀ L s.heap news) (T : Top p loose mean mg mb h₀)
    (ho : K.lookup f = some ⟨oc, od, .func (fnOf name qual params body scope dV kV doc pm an cdv ct), osl⟩) (hcd : codeIn K cdv qual = true) (hroom : A.depth < recursionLimit)
    (hp : peek1 K ⟨prog, w.params⟩ (bindArgs (fnOf name qual params body scope dV kV doc pm an cdv ct) args) = some (({ cls := .type "tuple", data := .seq vs.toArray } : Obj), g₁))
    (hg : ∀ D, g₁ D = some (binds D)) (hloc : ∀ D, ∀ y ∈ binds D, scope.names.lookup y.1 = some .local)
    (h : ∀ D g L' h₁, (∀ p ∈ news, p.1 < D) → Fr h₀ L g m → Fr g L' h₁ (fun y => (binds D).reverse.lookup y) → News g L' h₁ ((D, ({ cls := .type "tuple", data := .seq vs.toArray } : Obj)) :: news) → K.In g → Top p loose mean mg mb g →
      wpAny (model prog w) (A.deeper (envOf qual scope L' f cdv)) (execs body (envOf qual scope L' f cdv))
        (fun fl s' => LeaveK h₀ L m g R (match fl with | .ret v => v | _ => .none) s')
        (fun e s' => wpAny (model prog w) (A.deeper (envOf qual scope L' f cdv)) (leaving (envOf qual scope L' f cdv) e) (fun _ s'' => R (.error e) s'') (fun e' s'' => R (.error e') s'') s')
        { s with heap := h₁, toks := s.toks + (binds D).length })
    (hco : scope.isCoroutine = false) (hgen : scope.isGenerator = false) (hk : scope.kind = .function)
    (hcell : ∀ x ∈ scope.names, x.2 ≠ .cell) : codeAny (model prog w) A (.call (.ref f) args) R s := by
  refine codeAny_call_function (fd := fnOf name qual params body scope dV kV doc pm an cdv ct) (body := body) hroom ((X₀.keeps F.keep) _ _ ho) rfl hco hgen rfl (codeRec_of (X₀.keeps F.keep) hcd) ?_
  refine wp_of_peek1 (o := ({ cls := .type "tuple", data := .seq vs.toArray } : Obj)) F N (X₀.keeps F.keep) rfl (r := binds) (fun D h' F' N' l => ?_) _ g₁ hp hg
  obtain ⟨FG, st, lv⟩ := groundN (R := R) (s := { s with heap := h' }) F' N'
  refine wpAny_newFunctionEnv (s := { s with heap := h' }) hcell (hloc D) (fun h₁ hns hsb => ⟨(T.nolimit.keeps F'.keep).fresh _ hsb, codeAny_func ?_⟩) hk
  have hk₁ : ∀ b o, h'.get? b = some o → h₁.get? b = some o := fun b o e => hsb.extBut b o (Nat.ne_of_lt (Heap.lt_size e)) (Heap.get?_push_of_some _ e)
  exact wpAny_mono (h D _ h'.objs.size h₁ l FG ⟨hns, fun b o e => hk₁ b o (of_hideAll _ e), Nat.le_of_eq (hideAll_size _ _)⟩
    (fun p hp => ⟨hk₁ _ _ (N' p hp).1, Nat.ne_of_lt (Heap.lt_size (N' p hp).1), hideAll_none _ (List.mem_map_of_mem hp)⟩) (X₀.keeps st) (T.keeps st)) (fun fl s' hl => lv _ _ hl) fun _ _ y => y
theorem tok_gen {α : Type} {M : Model} {x : Sem α} {Q : α → Shared → Prop} {heap : Heap} {gens : Array GenState} {drawn : Drawn} {toks : Nat} {os : OsState} (h : ∀ tk, wpAny M A x Q E ⟨heap, gens, drawn, tk, os⟩) : wpAny M A x Q E ⟨heap, gens, drawn, toks, os⟩ := h toks
theorem pick4 {f : Int → Prop} {k : Int} (a : f 0) (b : f 1) (c : f 2) (d : f 3) (h0 : 0 ≤ k) (h1 : k < 4) : f k := (int4 h0 h1).elim (fun e => e ▸ a) fun o => o.elim (fun e => e ▸ b) fun o => o.elim (fun e => e ▸ c) fun e => e ▸ d
theorem pick3 {f : Int → Prop} {k : Int} (a : f 0) (b : f 1) (c : f 2) (h0 : 0 ≤ k) (h1 : k < 3) : f k := (int3 h0 h1).elim (fun e => e ▸ a) fun o => o.elim (fun e => e ▸ b) fun e => e ▸ c
theorem pick2 {f : Int → Prop} {k : Int} (a : f 0) (b : f 1) (h0 : 0 ≤ k) (h1 : k < 2) : f k := (int2 h0 h1).elim (fun e => e ▸ a) fun e => e ▸ b
theorem item3_ref {l a0 a1 a2 : Addr} {k : Int} {u : Tok} {value slice : PySem.Expr} {n : Nat} {Q : Value → Shared → Prop} {h₀ : Heap} {L : Addr} {news : List (Addr × Obj)} (N : News h₀ L s.heap news) (hl : (l, listOf #[.ref a0, .ref a1, .ref a2] n) ∈ news) (h0 : 0 ≤ k) (h1 : k < 3) (h : Q (.ref (if k = 0 then a0 else if k = 1 then a1 else a2)) s)
    (hs : subscripted slice false (.ref l) (.int k u) = operate [.ref l, .int k u] (getItem (.ref l) (.int k u)) := by with_unfolding_all rfl) :
    wpAny (model prog w) A (subscriptTail value slice (.ref l) (.int k u)) Q E s := by
  have hl' : s.heap.IsList l #[.ref a0, .ref a1, .ref a2] := ⟨_, (N _ hl).1, rfl, _, rfl⟩
  refine tail_any hl'.typeIs slot_list_getitem.lookup (wpAny_getItem_list hl' h0 (lt_63 h1 (by decide)) (x := .ref (if k = 0 then a0 else if k = 1 then a1 else a2)) ?_ h) hs
  exact pick3 (f := fun k => (#[.ref a0, .ref a1, .ref a2] : Array Value)[k.toNat]? = some (.ref (if k = 0 then a0 else if k = 1 then a1 else a2))) rfl rfl rfl h0 h1
theorem item3_str {l : Addr} {x0 x1 x2 : Str} {t0 t1 t2 : Tok} {k : Int} {u : Tok} {value slice : PySem.Expr} {n : Nat} {Q : Value → Shared → Prop} {h₀ : Heap} {L : Addr} {news : List (Addr × Obj)} (N : News h₀ L s.heap news) (hl : (l, listOf #[.str x0 t0, .str x1 t1, .str x2 t2] n) ∈ news) (h0 : 0 ≤ k) (h1 : k < 3)
    (h : Q (.str (if k = 0 then x0 else if k = 1 then x1 else x2) (if k = 0 then t0 else if k = 1 then t1 else t2)) s)
    (hs : subscripted slice false (.ref l) (.int k u) = operate [.ref l, .int k u] (getItem (.ref l) (.int k u)) := by with_unfolding_all rfl) :
    wpAny (model prog w) A (subscriptTail value slice (.ref l) (.int k u)) Q E s := by
  have hl' : s.heap.IsList l #[.str x0 t0, .str x1 t1, .str x2 t2] := ⟨_, (N _ hl).1, rfl, _, rfl⟩
  refine tail_any hl'.typeIs slot_list_getitem.lookup (wpAny_getItem_list hl' h0 (lt_63 h1 (by decide)) (x := .str (if k = 0 then x0 else if k = 1 then x1 else x2) (if k = 0 then t0 else if k = 1 then t1 else t2)) ?_ h) hs
  exact pick3 (f := fun k => (#[.str x0 t0, .str x1 t1, .str x2 t2] : Array Value)[k.toNat]? = some (.str (if k = 0 then x0 else if k = 1 then x1 else x2) (if k = 0 then t0 else if k = 1 then t1 else t2))) rfl rfl rfl h0 h1
theorem item2_ref {l a0 a1 : Addr} {k : Int} {u : Tok} {value slice : PySem.Expr} {n : Nat} {Q : Value → Shared → Prop} {h₀ : Heap} {L : Addr} {news : List (Addr × Obj)} (N : News h₀ L s.heap news) (hl : (l, listOf #[.ref a0, .ref a1] n) ∈ news) (h0 : 0 ≤ k) (h1 : k < 2) (h : Q (.ref (if k = 0 then a0 else a1)) s)
    (hs : subscripted slice false (.ref l) (.int k u) = operate [.ref l, .int k u] (getItem (.ref l) (.int k u)) := by with_unfolding_all rfl) :
    wpAny (model prog w) A (subscriptTail value slice (.ref l) (.int k u)) Q E s := by
  have hl' : s.heap.IsList l #[.ref a0, .ref a1] := ⟨_, (N _ hl).1, rfl, _, rfl⟩
  refine tail_any hl'.typeIs slot_list_getitem.lookup (wpAny_getItem_list hl' h0 (lt_63 h1 (by decide)) (x := .ref (if k = 0 then a0 else a1)) ?_ h) hs
  exact pick2 (f := fun k => (#[.ref a0, .ref a1] : Array Value)[k.toNat]? = some (.ref (if k = 0 then a0 else a1))) rfl rfl h0 h1
theorem item4_ref {l a0 a1 a2 a3 : Addr} {k : Int} {u : Tok} {value slice : PySem.Expr} {n : Nat} {Q : Value → Shared → Prop} {h₀ : Heap} {L : Addr} {news : List (Addr × Obj)} (N : News h₀ L s.heap news) (hl : (l, listOf #[.ref a0, .ref a1, .ref a2, .ref a3] n) ∈ news) (h0 : 0 ≤ k) (h1 : k < 4) (h : Q (.ref (if k = 0 then a0 else if k = 1 then a1 else if k = 2 then a2 else a3)) s)
    (hs : subscripted slice false (.ref l) (.int k u) = operate [.ref l, .int k u] (getItem (.ref l) (.int k u)) := by with_unfolding_all rfl) :
    wpAny (model prog w) A (subscriptTail value slice (.ref l) (.int k u)) Q E s := by
  have hl' : s.heap.IsList l #[.ref a0, .ref a1, .ref a2, .ref a3] := ⟨_, (N _ hl).1, rfl, _, rfl⟩
  refine tail_any hl'.typeIs slot_list_getitem.lookup (wpAny_getItem_list hl' h0 (lt_63 h1 (by decide)) (x := .ref (if k = 0 then a0 else if k = 1 then a1 else if k = 2 then a2 else a3)) ?_ h) hs
  exact pick4 (f := fun k => (#[.ref a0, .ref a1, .ref a2, .ref a3] : Array Value)[k.toNat]? = some (.ref (if k = 0 then a0 else if k = 1 then a1 else if k = 2 then a2 else a3))) rfl rfl rfl rfl h0 h1
/-- bytes of one of three made lists -/
theorem bytes3 {l0 l1 l2 : Addr} {k : Int} {v0 v1 v2 : List Value} {n0 n1 n2 : Nat} {m0 m1 m2 : List Int} {Q : Value → Shared → Prop} {h₀ : Heap} {L : Addr} {m : Str → Option Value} {news : List (Addr × Obj)} (F : Fr h₀ L s.heap m) (N : News h₀ L s.heap news) (hh : A.handled = none)
    (e0 : (l0, listOf v0.toArray n0) ∈ news) (e1 : (l1, listOf v1.toArray n1) ∈ news) (e2 : (l2, listOf v2.toArray n2) ∈ news) (i0 : IntsAre v0 m0) (i1 : IntsAre v1 m1) (i2 : IntsAre v2 m2)
    (r0 : KBa.In m0) (r1 : KBa.In m1) (r2 : KBa.In m2) (z0 : m0.length = 8) (z1 : m1.length = 8) (z2 : m2.length = 8)
    (h : ∀ t' h' k', Fr h₀ L h' m → News h₀ L h' news → Q (.bytes (byteArr (if k = 0 then m0 else if k = 1 then m1 else m2)) t') { s with heap := h', toks := k' }) :
    wpAny (model prog w) A (call (.type "bytes") [.ref (if k = 0 then l0 else if k = 1 then l1 else l2)]) Q E s := by
  have w : ∃ v n, ((if k = 0 then l0 else if k = 1 then l1 else l2), listOf v.toArray n) ∈ news ∧ IntsAre v (if k = 0 then m0 else if k = 1 then m1 else m2) ∧ KBa.In (if k = 0 then m0 else if k = 1 then m1 else m2) ∧ (if k = 0 then m0 else if k = 1 then m1 else m2).length = 8 := by
    by_cases h0 : k = 0
    · rw [if_pos h0, if_pos h0]; exact ⟨_, _, e0, i0, r0, z0⟩
    · rw [if_neg h0, if_neg h0]
      by_cases h1 : k = 1
      · rw [if_pos h1, if_pos h1]; exact ⟨_, _, e1, i1, r1, z1⟩
      · rw [if_neg h1, if_neg h1]; exact ⟨_, _, e2, i2, r2, z2⟩
  obtain ⟨v, n, e, i, r, z⟩ := w
  exact KBa.make_K F N hh ⟨_, (N _ e).1, rfl, _, rfl⟩ i r (le_e z rfl) fun h' t' k' F' N' _ => h t' h' k' F' N'
end gen

theorem oct_in0 : KBa.In [0, 0, 0, 0, 0, 0, 0, 1] := (by decide : ∀ n ∈ ([0, 0, 0, 0, 0, 0, 0, 1] : List Int), 0 ≤ n ∧ n < 256)
theorem oct_in1 : KBa.In [1, 0, 0, 0, 0, 0, 0, 1] := (by decide : ∀ n ∈ ([1, 0, 0, 0, 0, 0, 0, 1] : List Int), 0 ≤ n ∧ n < 256)
theorem oct_in2 (x : Int) : KBa.In [0, 0, 0, 0, 0, 0, 0, 200 - 100 * x.fmod 2] :=
  pick2 (f := fun k => ∀ n ∈ ([0, 0, 0, 0, 0, 0, 0, 200 - 100 * k] : List Int), 0 ≤ n ∧ n < 256) (by decide) (by decide) (fm_ge x (by decide)) (fm_lt x (by decide))
/-- the octets of a number (before text), its base and its second name -/
noncomputable def octs (n : Int) : List Int := if (n.fdiv 8).fmod 3 = 0 then [0, 0, 0, 0, 0, 0, 0, 1] else if (n.fdiv 8).fmod 3 = 1 then [1, 0, 0, 0, 0, 0, 0, 1] else [0, 0, 0, 0, 0, 0, 0, 200 - 100 * (n.fdiv 144).fmod 2]
noncomputable def oidB (n : Int) : Array UInt8 := byteArr (octs n)
noncomputable def baseS (n : Int) : Str := if (n.fdiv 24).fmod 3 = 0 then "" else if (n.fdiv 24).fmod 3 = 1 then "other" else "third"
noncomputable def nameS (n : Int) : Str := if (n.fdiv 72).fmod 2 = 0 then "A" else "B"
end Mine
namespace Mine
variable {w : World} {p : Program} {loose : List Str} {mean : ExcName → Option Value} {mg mb : Str → Option Value} {dp un : Nat} {gd : Option (List Code)} {fr : Option (List Env)} {s : Shared} {Q E : Value → Shared → Prop} {n : Int} {t : Tok}
def Kp (h h' : Heap) : Prop := ∀ c o, h.get? c = some o → h'.get? c = some o
theorem Kp.refl (h : Heap) : Kp h h := fun _ _ e => e
theorem Kp.trans {h h' h'' : Heap} (a : Kp h h') (b : Kp h' h'') : Kp h h'' := fun c o e => b c o (a c o e)
theorem fr_kp {h₀ h h' : Heap} {L : Addr} {m : Str → Option Value} (F : Fr h₀ L h m) (k : Kp h h') : Fr h₀ L h' m := F.keeps k
theorem news_kp {h₀ h h' : Heap} {L : Addr} {news : List (Addr × Obj)} (N : News h₀ L h news) (k : Kp h h') : News h₀ L h' news := fun p hp => ⟨k _ _ (N p hp).1, (N p hp).2⟩
theorem news_add {h₀ h h' : Heap} {L a : Addr} {o : Obj} {m : Str → Option Value} {news : List (Addr × Obj)} (F : Fr h₀ L h m) (N : News h₀ L h' news) (ha : h.get? a = none) (ho : h'.get? a = some o) : News h₀ L h' ((a, o) :: news) := by
  intro p hp
  rcases List.mem_cons.mp hp with rfl | hp
  · refine ⟨ho, ?_, ?_⟩
    · obtain ⟨oL, _, _, hL, _⟩ := F.ns
      rintro rfl
      rw [ha] at hL; cases hL
    · cases q : h₀.get? a with
      | none => rfl
      | some o' => have := F.keep _ _ q; rw [ha] at this; cases this
  · exact N p hp

theorem parts_con (X : (hd.heap_1 w.params).In s.heap) (T : Top p loose mean mg mb s.heap) (hdp : dp < 700) (hun : un < 200)
    (hret : ∀ a b t1 t2 t3 t4 t5 t6 h' tk', Kp s.heap h' → s.heap.get? a = none → s.heap.get? b = none → h'.get? a = some (tupO [.int (n.fmod 8) t1, .bytes (oidB n) t2, .str (baseS n) t3, .ref b, .int ((n.fdiv 144).fmod 2) t4]) → h'.get? b = some (tupO [.str "m" t5, .str (nameS n) t6]) → Q (.ref a) { s with heap := h', toks := tk' }) :
    wpAny (model PR w) (tA dp un gd fr) (call (.ref 141) [.int n t]) Q E s := by
  k_with_none
  (k_with "ktr_room" => ((first | k_dflt (exact lt_0 (by assumption) rfl) | k_dflt (exact lt_1 (by assumption) rfl) | ((simp only [depth_under_make, depth_under_kw, depth_in1, depth_deeper, depth_caller, recursionLimit] at *); omega))))
  (k_with "k_room" => ((first | k_dflt (exact lt_0 (by assumption) rfl) | k_dflt (exact lt_1 (by assumption) rfl) | ((simp only [depth_under_make, depth_under_kw, depth_in1, depth_deeper, depth_caller, recursionLimit] at *); omega))))
  (k_with "k_units" => ((first | k_dflt (exact lt_0 (by assumption) rfl) | k_dflt (exact lt_1 (by assumption) rfl) | k_dflt (exact lt_2 (by assumption) rfl) | k_dflt (exact lt_3 (by assumption) rfl) | ((have qhcL9 := cLine_is); (simp only [units_in1, units_deeper, Around.mark_units, units_caller, cLine] at *); omega))))
  (k_with "execs cons" => (((first | (with_reducible show wpAny _ _ _ _ _ (Shared.mk _ _ _ (_ + 1) _)) | (with_reducible show wpAny _ _ _ _ _ (Shared.mk _ _ _ (Shared.toks (Shared.mk _ _ _ _ _)) _))); refine tok_gen (fun tk => ?_))))
  (k_with "k_enter" => ((refine' code_defN ?h5hk2 ?h5hk3 ?h5hk4 ?h5hk5 ?h5hk6 ?h5hk7 ?h5hk8 ?h5hk9 ?h5hkB ?_ ?h5hc2 ?h5hc3 ?h5hc4 ?h5hc5; (case h5hk2 => k_asm); (case h5hk3 => k_asm); (case h5hk4 => k_asm); (case h5hk5 => k_asm); (case h5hk6 => k_is); (case h5hk7 => k_is); (case h5hk8 => k_room); (case h5hk9 => first | exact BindsTo.of_eq rfl | exact binds_K (by k_in) rfl (by k_is) rfl rfl rfl | fail "k_enter: no rule for these arguments"); (case h5hc5 => decide); (case h5hkB => exact locs rfl); (case h5hc2 => exact rfl); (case h5hc3 => exact rfl); (case h5hc4 => exact rfl); k_whole; intro qg' qL' qh' qFG' qF' qN' qX' qT'; (try dsimp only); (try k_fold))))
  (k_with "subscriptTail" => ((k_here; (with_reducible show wpAny _ _ (subscriptTail _ _ (Value.ref _) (Value.int _ _)) _ _ _); k_dflt (refine' item3_ref ?h6hk1 ?h6hk2 ?h6hk3 ?h6hk4 ?_ ?h6hk6; (case h6hk1 => k_asm); (case h6hk2 => k_mem); (case h6hk3 => exact fm_ge _ rfl); (case h6hk4 => exact fm_lt _ rfl); (case h6hk6 => with_unfolding_all rfl); k_whole))))
  (k_with "subscriptTail" => ((k_here; (with_reducible show wpAny _ _ (subscriptTail _ _ (Value.ref _) (Value.int _ _)) _ _ _); k_dflt (refine' item3_str ?h7hk1 ?h7hk2 ?h7hk3 ?h7hk4 ?_ ?h7hk6; (case h7hk1 => k_asm); (case h7hk2 => k_mem); (case h7hk3 => exact fm_ge _ rfl); (case h7hk4 => exact fm_lt _ rfl); (case h7hk6 => with_unfolding_all rfl); k_whole))))
  (k_with "subscriptTail" => ((k_here; (with_reducible show wpAny _ _ (subscriptTail _ _ (Value.ref _) (Value.int _ _)) _ _ _); k_dflt (refine' item2_ref ?h8hk1 ?h8hk2 ?h8hk3 ?h8hk4 ?_ ?h8hk6; (case h8hk1 => k_asm); (case h8hk2 => k_mem); (case h8hk3 => exact fm_ge _ rfl); (case h8hk4 => exact fm_lt _ rfl); (case h8hk6 => with_unfolding_all rfl); k_whole))))
  (k_with "call type:bytes" => ((k_here; (with_reducible show wpAny _ _ (call (Value.type "bytes") [Value.ref (ite _ _ _)]) _ _ _); k_dflt (refine' bytes3 ?h9hF ?h9hN ?h9hh ?h9he0 ?h9he1 ?h9he2 ?h9hi0 ?h9hi1 ?h9hi2 ?h9hr0 ?h9hr1 ?h9hr2 ?h9hz0 ?h9hz1 ?h9hz2 ?_; (case h9hF => k_asm); (case h9hN => k_asm); (case h9hh => rfl); (case h9he0 => k_mem); (case h9he1 => k_mem); (case h9he2 => k_mem); (case h9hi0 => l_ints); (case h9hi1 => l_ints); (case h9hi2 => l_ints); (case h9hr0 => exact oct_in0); (case h9hr1 => exact oct_in1); (case h9hr2 => exact oct_in2 _); (case h9hz0 => rfl); (case h9hz1 => rfl); (case h9hz2 => rfl); k_whole); intro qt' qh' qk' qF' qN'; (try k_sweep))))
  refine wpAny_call ?_
  k_dflt (refine' enterC X T ?k8 ?k6 ?k7 ?k9 ?kB ?_ ?c2 ?c3 ?c4 ?c5; (case k6 => k_is); (case k7 => k_is); (case k8 => ktr_room); (case k9 => exact BindsTo.of_eq rfl); (case kB => exact locs rfl); (case c2 => exact rfl); (case c3 => exact rfl); (case c4 => exact rfl); (case c5 => decide))
  intro g h₁ L' hg hL F' N' X' T'
  (try dsimp only)
  (try k_fold)
  k_steps
  subst hg
  rename_i F9 N9
  have h1 := N9 _ (List.Mem.head _)
  have e1 := h1.1
  by_cases hc : (n.fdiv 72).fmod 2 = 0
  · have h3 := N9 _ (List.Mem.tail _ (List.Mem.tail _ (List.Mem.tail _ (List.Mem.head _))))
    dsimp only at e1
    rw [if_pos hc] at e1
    exact hret _ _ _ _ _ _ _ _ _ _ F9.keep h1.2.2 h3.2.2 e1 (h3.1.trans (by rw [nameS, if_pos hc]))
  · have h2 := N9 _ (List.Mem.tail _ (List.Mem.tail _ (List.Mem.head _)))
    dsimp only at e1
    rw [if_neg hc] at e1
    exact hret _ _ _ _ _ _ _ _ _ _ F9.keep h1.2.2 h2.2.2 e1 (h2.1.trans (by rw [nameS, if_neg hc]))
end Mine
namespace Mine
open Builtin
/-- the three texts -/
def oct0 : List UInt8 := [0, 0, 0, 0, 0, 0, 0, 1]
def oct1 : List UInt8 := [1, 0, 0, 0, 0, 0, 0, 1]
def oct2 : List UInt8 := [0, 0, 0, 0, 0, 0, 0, 100]
def textOf (l : List UInt8) : Str := ⟨(l.map (·.toNat)).toArray⟩
theorem road_ascii {id : String} {b : Array UInt8} : _codecs.decodeRoad id b (PySem.Str.ofString "ascii") none [] = (_codecs.runDecoder id _codecs.asciiDecoder none true b 0 [] >>= fun r => mkStr ⟨r.1⟩) := by kernel_rfl
theorem run0 {id : String} : _codecs.runDecoder id _codecs.asciiDecoder none true oct0.toArray 0 [] = pure ((textOf oct0).cps, 8) := by kernel_rfl
theorem run1 {id : String} : _codecs.runDecoder id _codecs.asciiDecoder none true oct1.toArray 0 [] = pure ((textOf oct1).cps, 8) := by kernel_rfl
theorem run2 {id : String} : _codecs.runDecoder id _codecs.asciiDecoder none true oct2.toArray 0 [] = pure ((textOf oct2).cps, 8) := by kernel_rfl
theorem dec_entry {c : UInt8} {cs : List UInt8} {t u : Tok} : «bytes.decode» ⟨[.bytes (c :: cs).toArray t, .str (PySem.Str.ofString "ascii") u], []⟩ = (mkStr (PySem.Str.ofString "utf-8") >>= fun _ => mkStr (PySem.Str.ofString "ascii") >>= fun e => mkStr (PySem.Str.ofString "bytes.decode") >>= fun d =>
    call (.builtin "_codecs.decode.text") [.bytes (c :: cs).toArray t, e, .none, d] >>= fun v => ret v) := by kernel_rfl
theorem enc0 {t u : Tok} : «str.encode» ⟨[.str (textOf oct0) t, .str (PySem.Str.ofString "ascii") u], []⟩ = (mkBytes oct0.toArray >>= fun v => ret v) := by kernel_rfl
theorem enc1 {t u : Tok} : «str.encode» ⟨[.str (textOf oct1) t, .str (PySem.Str.ofString "ascii") u], []⟩ = (mkBytes oct1.toArray >>= fun v => ret v) := by kernel_rfl
theorem enc2 {t u : Tok} : «str.encode» ⟨[.str (textOf oct2) t, .str (PySem.Str.ofString "ascii") u], []⟩ = (mkBytes oct2.toArray >>= fun v => ret v) := by kernel_rfl

theorem meets_text' {b : Array UInt8} {t t1 t2 : Tok} {d x : PySem.Str} {n : Nat} (hd : ∀ id, _codecs.runDecoder id _codecs.asciiDecoder none true b 0 [] = pure (x.cps, n)) :
    Meets («_codecs.decode.text» ⟨[.bytes b t, .str (PySem.Str.ofString "ascii") t1, .none, .str d t2], []⟩) (fun _ R s => x.length ≤ sizeLine ∧ R (.ok (.ret (.str x s.toks))) { s with toks := s.toks + 1 }) := by
  refine .of_wp fun prog w A R s hS => ?_
  obtain ⟨hsz, h⟩ := hS
  show wpAny _ _ (Bytes.bytesLike _ (.bytes b t) >>= fun r => _) _ _ s
  refine wpAny_bind (wpAny_of_eq KBd.like_eq ?_)
  refine wpAny_bind (wpAny_of_eq KBd.held_eq ?_)
  show wpAny _ _ (_codecs.decodeRoad _ b (PySem.Str.ofString "ascii") none [] >>= fun v => _) _ _ s
  rw [road_ascii, hd]
  refine wpAny_bind (wpAny_bind (wpAny_pure ?_))
  exact wpAny_mkStr (wpAny_pure ⟨_, rfl, h⟩) hsz
theorem meets_decode' {c : UInt8} {cs : List UInt8} {t u : Tok} {x : PySem.Str} {n : Nat} (hd : ∀ id, _codecs.runDecoder id _codecs.asciiDecoder none true (c :: cs).toArray 0 [] = pure (x.cps, n)) :
    Meets («bytes.decode» ⟨[.bytes (c :: cs).toArray t, .str (PySem.Str.ofString "ascii") u], []⟩) (fun _ R s => x.length ≤ sizeLine ∧ ∀ t' k, R (.ok (.ret (.str x t'))) { s with toks := k }) := by
  refine .of_wp fun prog w A R s hS => ?_
  obtain ⟨hsz, h⟩ := hS
  rw [dec_entry]
  refine wpAny_bind (wpAny_mkStr ?_ (by decide))
  refine wpAny_bind (wpAny_mkStr ?_ (by decide))
  refine wpAny_bind (wpAny_mkStr ?_ (by decide))
  exact wpAny_bind (call_function_meets KBd.kind_text KBd.plain_text KBd.entry_text (KBd.args_text _ _ _ _) (meets_text' hd) ⟨hsz, wpAny_pure ⟨_, rfl, h _ _⟩⟩)
theorem args_decode_2 (a b : Value) : argsOk "bytes.decode" ⟨[a, b], []⟩ := by
  unfold argsOk; rw [signature?_of (id := "bytes.decode") (n := ['e', 'd', 'o', 'c', 'e', 'd']) (o := ['s', 'e', 't', 'y', 'b']) (by kernel_rfl) FB.owner_bytes]; kernel_rfl

/-- the octets of a number as bytes and as text -/
def oidL (n : Int) : List UInt8 := if (n.fdiv 8).fmod 3 = 0 then oct0 else if (n.fdiv 8).fmod 3 = 1 then oct1 else oct2
def oidS (n : Int) : Str := if (n.fdiv 8).fmod 3 = 0 then textOf oct0 else if (n.fdiv 8).fmod 3 = 1 then textOf oct1 else textOf oct2
theorem oidB_text {n : Int} (h : (n.fdiv 144).fmod 2 = 1) : oidB n = (oidL n).toArray := by
  unfold oidB octs oidL
  rw [h]
  split
  · rfl
  · split <;> rfl
section
variable {prog : Program} {w : World} {A : Around} {E : Value → Shared → Prop} {s : Shared} {t u : Tok} {n : Int} {Q : Value → Shared → Prop}
theorem decode_oid (hx : (n.fdiv 144).fmod 2 = 1) (h : ∀ t' k, Q (.str (oidS n) t') { s with toks := k }) :
    wpAny (model prog w) A (call (.builtin "bytes.decode") [.bytes (oidB n) t, .str (PySem.Str.ofString "ascii") u]) Q E s := by
  rw [oidB_text hx]
  unfold oidL
  unfold oidS at h
  by_cases h0 : (n.fdiv 8).fmod 3 = 0
  · rw [if_pos h0] at h ⊢
    exact call_meets FB.slot_bytes_decode (typeIs_bytes _ _ _) FB.entry_bytes_decode (args_decode_2 _ _) (meets_decode' fun _ => run0) ⟨by rw [sizeLine_eq]; decide, h⟩
  · rw [if_neg h0] at h ⊢
    by_cases h1 : (n.fdiv 8).fmod 3 = 1
    · rw [if_pos h1] at h ⊢
      exact call_meets FB.slot_bytes_decode (typeIs_bytes _ _ _) FB.entry_bytes_decode (args_decode_2 _ _) (meets_decode' fun _ => run1) ⟨by rw [sizeLine_eq]; decide, h⟩
    · rw [if_neg h1] at h ⊢
      exact call_meets FB.slot_bytes_decode (typeIs_bytes _ _ _) FB.entry_bytes_decode (args_decode_2 _ _) (meets_decode' fun _ => run2) ⟨by rw [sizeLine_eq]; decide, h⟩
theorem enc_oid (n : Int) : «str.encode» ⟨[.str (oidS n) t, .str (PySem.Str.ofString "ascii") u], []⟩ = (mkBytes (oidL n).toArray >>= fun v => ret v) := by
  unfold oidS oidL
  split
  · exact enc0
  · split
    · exact enc1
    · exact enc2
theorem oidL_size (n : Int) : (oidL n).toArray.size ≤ sizeLine := by
  unfold oidL
  rw [sizeLine_eq]
  split
  · decide
  · split <;> decide
theorem encode_oid (hx : (n.fdiv 144).fmod 2 = 1) (h : ∀ t' k, Q (.bytes (oidB n) t') { s with toks := k }) :
    wpAny (model prog w) A (call (.builtin "str.encode") [.str (oidS n) t, .str (PySem.Str.ofString "ascii") u]) Q E s := by
  rw [oidB_text hx] at h
  refine wpAny_call_entry F.slot_str_encode (typeIs_str _ _ _) F.entry_str_encode ?_ (F.args_str_encode_2 _ _)
  rw [enc_oid]
  refine wpAny_bind ?_
  unfold mkBytes
  rw [if_neg (Nat.not_lt.mpr (oidL_size n))]
  exact wpAny_bind (wpAny_fresh (wpAny_pure (wpAny_pure ⟨_, rfl, h _ _⟩)))
theorem method_decode {M : Model} {b : Array UInt8} {pl : Sem Bool} {Q : Value × List Value → Shared → Prop} (h : Q (.builtin "bytes.decode", [.bytes b t]) s) : wpAny M A (getMethod (.bytes b t) "decode" pl) Q E s := KBd.method h
end
end Mine
namespace Mine
theorem ne_tail {d : Addr} {l : List (Addr × Obj)} (h : AllLt d l) : ∀ p ∈ l, p.1 ≠ d := fun p hp => Nat.ne_of_lt (ktn_ltOf h p hp)
section
variable {w : World} {p : Program} {loose : List Str} {mean : ExcName → Option Value} {mg mb : Str → Option Value} {dp un : Nat} {gd : Option (List Code)} {fr : Option (List Env)} {s : Shared} {Q E : Value → Shared → Prop} {n : Int} {t u : Tok} {x y : Str}
theorem bad_K {h₀ : Heap} {L : Addr} {m : Str → Option Value} {news : List (Addr × Obj)} (F : Fr h₀ L s.heap m) (N : News h₀ L s.heap news) (X : (hd.heap_1 w.params).In h₀) (T : Top p loose mean mg mb h₀) (hdp : dp < 700) (hun : un < 200)
    (hret : ∀ a dx d hh t0 k h' tk', Fr h₀ L h' m → News h₀ L h' ((a, instObj 31 dx) :: (dx, dictOf [⟨hh, .str "args" t0, .ref d⟩] k) :: (d, tupO [.str x t, .str y u]) :: news) → Q (.ref a) { s with heap := h', toks := tk' }) :
    wpAny (model PR w) (tA dp un gd fr) (call (.ref 31) [.str x t, .str y u]) Q E s := by
  k_with_none
  (k_with "ktr_room" => ((first | k_dflt (exact lt_0 (by assumption) rfl) | k_dflt (exact lt_1 (by assumption) rfl) | ((simp only [depth_under_make, depth_under_kw, depth_in1, depth_deeper, depth_caller, recursionLimit] at *); omega))))
  (k_with "k_room" => ((first | k_dflt (exact lt_0 (by assumption) rfl) | k_dflt (exact lt_1 (by assumption) rfl) | ((simp only [depth_under_make, depth_under_kw, depth_in1, depth_deeper, depth_caller, recursionLimit] at *); omega))))
  (k_with "k_units" => ((first | k_dflt (exact lt_0 (by assumption) rfl) | k_dflt (exact lt_1 (by assumption) rfl) | k_dflt (exact lt_2 (by assumption) rfl) | k_dflt (exact lt_3 (by assumption) rfl) | ((have qhcL9 := cLine_is); (simp only [units_in1, units_deeper, Around.mark_units, units_caller, cLine] at *); omega))))
  (k_with "execs cons" => (((first | (with_reducible show wpAny _ _ _ _ _ (Shared.mk _ _ _ (_ + 1) _)) | (with_reducible show wpAny _ _ _ _ _ (Shared.mk _ _ _ (Shared.toks (Shared.mk _ _ _ _ _)) _))); refine tok_gen (fun tk => ?_))))
  (k_with "k_enter" => ((refine' code_defN ?h14hk2 ?h14hk3 ?h14hk4 ?h14hk5 ?h14hk6 ?h14hk7 ?h14hk8 ?h14hk9 ?h14hkB ?_ ?h14hc2 ?h14hc3 ?h14hc4 ?h14hc5; (case h14hk2 => k_asm); (case h14hk3 => k_asm); (case h14hk4 => k_asm); (case h14hk5 => k_asm); (case h14hk6 => k_is); (case h14hk7 => k_is); (case h14hk8 => k_room); (case h14hk9 => first | exact BindsTo.of_eq rfl | exact binds_K (by k_in) rfl (by k_is) rfl rfl rfl | fail "k_enter: no rule for these arguments"); (case h14hc5 => decide); (case h14hkB => exact locs rfl); (case h14hc2 => exact rfl); (case h14hc3 => exact rfl); (case h14hc4 => exact rfl); k_whole; intro qg' qL' qh' qFG' qF' qN' qX' qT'; (try dsimp only); (try k_fold))))
  (k_with "k_all" => ((refine ne_tail ?_; first | assumption | exact (by assumption : _ ∧ AllLt _ _).2 | exact (by assumption : _ ∧ _ ∧ AllLt _ _).2.2 | exact (by assumption : _ ∧ _ ∧ _ ∧ AllLt _ _).2.2.2)))
  k_dflt (refine' call_cls ?k1 ?k2 ?k3 ?k4 ?k5 ?k6 ?_; (case k1 => k_asm); (case k2 => k_asm); (case k3 => k_asm); (case k4 => k_is); (case k5 => k_is); (case k6 => k_is); k_whole)
  intro x' d' h' F' N' l1 l2
  replace l2 := ltN l2
  replace l1 := allLt_of l1
  replace l1 := And.intro l2 l1
  k_dflt (refine' restN ?k2 ?k3 ?k4 ?k5 ?k6 ?k7 ?k8 ?kP ?kG ?kB ?_ ?c2 ?c3 ?c4 ?c5; (case k2 => k_asm); (case k3 => k_asm); (case k4 => k_asm); (case k5 => k_asm); (case k6 => k_is); (case k7 => k_is); (case k8 => k_room); (case kP => exact rfl); (case kG => exact fun _ => rfl); (case kB => exact fun _ => locs rfl); (case c5 => decide); (case c2 => exact rfl); (case c3 => exact rfl); (case c4 => exact rfl); k_whole)
  intro D' g' L' h' l3 FG' F' N' X' T'
  replace l3 := allLt_of l3
  simp only [AllLt] at l3
  (try dsimp only); (try k_fold)
  k_steps
  exact hret _ _ _ _ _ _ _ _ (by assumption) fun p hp => by
    (with_reducible rename News _ _ _ _ => N9)
    refine N9 p ?_
    simp only [List.mem_cons] at hp ⊢
    rcases hp with hp | hp | hp | hp
    · exact .inr (.inl hp)
    · exact .inr (.inr (.inl hp))
    · exact .inl hp
    · exact .inr (.inr (.inr hp))
end
end Mine
namespace Mine
section
variable {w : World} {p : Program} {loose : List Str} {mean : ExcName → Option Value} {mg mb : Str → Option Value} {dp un : Nat} {gd : Option (List Code)} {fr : Option (List Env)} {s : Shared} {Q E : Value → Shared → Prop} {n : Int} {t : Tok}
theorem parts_K {h₀ : Heap} {L : Addr} {m : Str → Option Value} {news : List (Addr × Obj)} (F : Fr h₀ L s.heap m) (N : News h₀ L s.heap news) (X : (hd.heap_1 w.params).In h₀) (T : Top p loose mean mg mb h₀) (hdp : dp < 700) (hun : un < 200)
    (hret : ∀ a b t1 t2 t3 t4 t5 t6 h' tk', Fr h₀ L h' m → News h₀ L h' ((a, tupO [.int (n.fmod 8) t1, .bytes (oidB n) t2, .str (baseS n) t3, .ref b, .int ((n.fdiv 144).fmod 2) t4]) :: (b, tupO [.str "m" t5, .str (nameS n) t6]) :: news) → Q (.ref a) { s with heap := h', toks := tk' }) :
    wpAny (model PR w) (tA dp un gd fr) (call (.ref 141) [.int n t]) Q E s := by
  refine parts_con (X.keeps F.keep) (T.keeps F.keep) hdp hun fun a b t1 t2 t3 t4 t5 t6 h' tk' k ha hb ea eb => ?_
  exact hret _ _ _ _ _ _ _ _ _ _ (fr_kp F k) (news_add F (news_add F (news_kp N k) hb eb) ha ea)
theorem execs_append (env : Env) (r : List Stmt) : ∀ l : List Stmt, execs (l ++ r) env = (execs l env >>= fun f => match f with | .next => execs r env | f => pure f)
  | [] => rfl
  | x :: l => by
    rw [List.cons_append, execs_cons, execs_cons, bind_assoc]
    congr 1
    funext f
    cases f with
    | next => exact execs_append env r l
    | _ => rfl
theorem execs_cut {M : Model} {A : Around} {env : Env} {Q : Flow → Shared → Prop} {E : Value → Shared → Prop} {s : Shared} (P : Shared → Prop) (l r : List Stmt)
    (h1 : wpAny M A (execs l env) (fun fl s' => fl = .next ∧ P s') E s) (h2 : ∀ s', P s' → wpAny M A (execs r env) Q E s') : wpAny M A (execs (l ++ r) env) Q E s := by
  rw [execs_append]
  refine wpAny_bind (wpAny_mono h1 (fun fl s' h => ?_) fun _ _ x => x)
  obtain ⟨rfl, h⟩ := h
  exact h2 s' h
theorem execs_cut3 {M : Model} {A : Around} {env : Env} {a b c : Stmt} {r : List Stmt} {Q : Flow → Shared → Prop} {E : Value → Shared → Prop} {s : Shared} (P : Shared → Prop)
    (h1 : wpAny M A (execs [a, b, c] env) (fun fl s' => fl = .next ∧ P s') E s) (h2 : ∀ s', P s' → wpAny M A (execs r env) Q E s') : wpAny M A (execs (a :: b :: c :: r) env) Q E s := execs_cut P [a, b, c] r h1 h2
end

def OidV (n : Int) (v : Value) : Prop := ((n.fdiv 144).fmod 2 = 0 ∧ ∃ t, v = .bytes (oidB n) t) ∨ ((n.fdiv 144).fmod 2 = 1 ∧ ∃ t, v = .str (oidS n) t)
abbrev NW (h₀ h : Heap) (a : Addr) (o : Obj) : Prop := h₀.get? a = none ∧ h.get? a = some o
theorem nw_of {h₀ h : Heap} {L a : Addr} {o : Obj} {news : List (Addr × Obj)} (N : News h₀ L h news) (hm : (a, o) ∈ news) : NW h₀ h a o := ⟨(N _ hm).2.2, (N _ hm).1⟩
/-- the class of a value: two texts, or a class that was not found (an object of BadClass) -/
def KlC (h₀ h : Heap) (n : Int) (bad : Bool) (c : Addr) : Prop :=
  (bad = false ∧ ∃ t1 t2, NW h₀ h c (tupO [.str "m" t1, .str (nameS n) t2])) ∨
  (bad = true ∧ ∃ dx d hh t0 k t1 t2, NW h₀ h c (instObj 31 dx) ∧ NW h₀ h dx (dictOf [⟨hh, .str "args" t0, .ref d⟩] k) ∧ NW h₀ h d (tupO [.str "m" t1, .str (nameS n) t2]))
def KlN (n : Int) (bad : Bool) (news : List (Addr × Obj)) (c : Addr) : Prop :=
  (bad = false ∧ ∃ t1 t2, (c, tupO [.str "m" t1, .str (nameS n) t2]) ∈ news) ∨
  (bad = true ∧ ∃ dx d hh t0 k t1 t2, (c, instObj 31 dx) ∈ news ∧ (dx, dictOf [⟨hh, .str "args" t0, .ref d⟩] k) ∈ news ∧ (d, tupO [.str "m" t1, .str (nameS n) t2]) ∈ news)
theorem KlN.mono {n : Int} {bad : Bool} {news news' : List (Addr × Obj)} {c : Addr} (x : KlN n bad news c) (hs : ∀ p ∈ news, p ∈ news') : KlN n bad news' c := by
  rcases x with ⟨h, t1, t2, a⟩ | ⟨h, dx, d, hh, t0, k, t1, t2, a, b, e⟩
  · exact .inl ⟨h, t1, t2, hs _ a⟩
  · exact .inr ⟨h, dx, d, hh, t0, k, t1, t2, hs _ a, hs _ b, hs _ e⟩
theorem KlC.of {h₀ h : Heap} {L : Addr} {news : List (Addr × Obj)} {n : Int} {bad : Bool} {c : Addr} (N : News h₀ L h news) (x : KlN n bad news c) : KlC h₀ h n bad c := by
  rcases x with ⟨h, t1, t2, a⟩ | ⟨h, dx, d, hh, t0, k, t1, t2, a, b, e⟩
  · exact .inl ⟨h, t1, t2, nw_of N a⟩
  · exact .inr ⟨h, dx, d, hh, t0, k, t1, t2, nw_of N a, nw_of N b, nw_of N e⟩
/-- what _law_value gives back -/
inductive ValC (h₀ h : Heap) (n : Int) (bad : Bool) : Value → Prop
  | f0 {v : Value} {a c : Addr} : n.fmod 8 < 2 → OidV n v → NW h₀ h a (tupO [v, .ref c]) → KlC h₀ h n bad c → ValC h₀ h n bad (.ref a)
  | f2 {v : Value} : 2 ≤ n.fmod 8 → n.fmod 8 < 4 → OidV n v → ValC h₀ h n bad v
  | f4 {v : Value} {l a c : Addr} {t1 t2 : Tok} {k : Nat} : n.fmod 8 = 4 → OidV n v → NW h₀ h l (listOf #[.str "m" t1, .ref a] k) → NW h₀ h a (tupO [.str (baseS n) t2, v, .ref c]) → KlC h₀ h n bad c → ValC h₀ h n bad (.ref l)
  | f5 {v : Value} {l a : Addr} {t1 t2 : Tok} {k : Nat} : n.fmod 8 = 5 → OidV n v → NW h₀ h l (listOf #[.str "n" t1, .ref a] k) → NW h₀ h a (tupO [.str (baseS n) t2, v]) → ValC h₀ h n bad (.ref l)
  | f6 {v : Value} {l a : Addr} {t1 : Tok} {k : Nat} : n.fmod 8 = 6 → baseS n = "" → OidV n v → NW h₀ h l (listOf #[.str "w" t1, .ref a] k) → NW h₀ h a (tupO [v]) → ValC h₀ h n bad (.ref l)
  | f6b {v : Value} {l a : Addr} {t1 t2 : Tok} {k : Nat} : n.fmod 8 = 6 → baseS n ≠ "" → OidV n v → NW h₀ h l (listOf #[.str "w" t1, .ref a] k) → NW h₀ h a (tupO [v, .str (baseS n) t2]) → ValC h₀ h n bad (.ref l)
  | f7 {v : Value} {l : Addr} {k : Nat} : n.fmod 8 = 7 → OidV n v → NW h₀ h l (listOf #[v] k) → ValC h₀ h n bad (.ref l)
def badB (lost : Bool) (n : Int) : Bool := lost && ([0, 1, 4].any fun x => x == n.fmod 8) && decide ((n.fdiv 288).fmod 2 = 1)
/-- the state behind the first three statements of _law_value -/
def PreV (n : Int) (lost : Bool) (g : Heap) (L : Addr) (s₀ : Shared) (s' : Shared) : Prop :=
  ∃ v c t3 t4 m' news h' tk', s' = { s₀ with heap := h', toks := tk' } ∧ Fr g L h' m' ∧ News g L h' news ∧ OidV n v ∧ KlN n (badB lost n) news c ∧
    m' "form" = some (.int (n.fmod 8) t3) ∧ m' "oid" = some v ∧ m' "base" = some (.str (baseS n) t4) ∧ m' "klass" = some (.ref c)
section
variable {w : World} {p : Program} {loose : List Str} {mean : ExcName → Option Value} {mg mb : Str → Option Value} {dp un : Nat} {gd : Option (List Code)} {fr : Option (List Env)} {s : Shared} {Q E : Value → Shared → Prop} {n : Int} {t : Tok}
theorem oidV_handed {v : Value} (h : OidV n v) : handedIn v = true := by
  rcases h with ⟨_, _, rfl⟩ | ⟨_, _, rfl⟩ <;> rfl
theorem x_not1 (h : (n.fdiv 144).fmod 2 ≠ 1) : (n.fdiv 144).fmod 2 = 0 := by
  have h0 := Int.fmod_nonneg_of_pos (n.fdiv 144) (b := 2) (by decide)
  have h1 := Int.fmod_lt_of_pos (n.fdiv 144) (b := 2) (by decide)
  omega
theorem bad_yes (h1 : ([0, 1, 4].any fun x => x == n.fmod 8) = true) (h2 : (n.fdiv 288).fmod 2 = 1) : badB true n = true := by simp only [badB, h1, h2, decide_true, Bool.and_self]
theorem bad_no1 (h1 : ([0, 1, 4].any fun x => x == n.fmod 8) = false) : badB true n = false := by simp only [badB, h1, Bool.and_false, Bool.false_and]
theorem bad_no2 (h2 : (n.fdiv 288).fmod 2 ≠ 1) : badB true n = false := by simp only [badB, h2, decide_false, Bool.and_false]
theorem value_con {lost : Bool} (X : (hd.heap_1 w.params).In s.heap) (T : Top p loose mean mg mb s.heap) (hdp : dp < 690) (hun : un < 190)
    (hret : ∀ r h' tk', Kp s.heap h' → ValC s.heap h' n (badB lost n) r → Q r { s with heap := h', toks := tk' }) :
    wpAny (model PR w) (tA dp un gd fr) (call (.ref 148) [.int n t, .bool lost]) Q E s := by
  k_with_none
  (k_with "ktr_room" => ((first | k_dflt (exact lt_0 (by assumption) rfl) | k_dflt (exact lt_1 (by assumption) rfl) | ((simp only [depth_under_make, depth_under_kw, depth_in1, depth_deeper, depth_caller, recursionLimit] at *); omega))))
  (k_with "k_room" => ((first | k_dflt (exact lt_0 (by assumption) rfl) | k_dflt (exact lt_1 (by assumption) rfl) | ((simp only [depth_under_make, depth_under_kw, depth_in1, depth_deeper, depth_caller, recursionLimit] at *); omega))))
  (k_with "k_units" => ((first | k_dflt (exact lt_0 (by assumption) rfl) | k_dflt (exact lt_1 (by assumption) rfl) | k_dflt (exact lt_2 (by assumption) rfl) | k_dflt (exact lt_3 (by assumption) rfl) | ((have qhcL9 := cLine_is); (simp only [units_in1, units_deeper, Around.mark_units, units_caller, cLine] at *); omega))))
  (k_with "execs cons" => (((first | (with_reducible show wpAny _ _ _ _ _ (Shared.mk _ _ _ (_ + 1) _)) | (with_reducible show wpAny _ _ _ _ _ (Shared.mk _ _ _ (Shared.toks (Shared.mk _ _ _ _ _)) _))); refine tok_gen (fun tk => ?_))))
  (k_with "k_enter" => ((refine' code_defN ?h20hk2 ?h20hk3 ?h20hk4 ?h20hk5 ?h20hk6 ?h20hk7 ?h20hk8 ?h20hk9 ?h20hkB ?_ ?h20hc2 ?h20hc3 ?h20hc4 ?h20hc5; (case h20hk2 => k_asm); (case h20hk3 => k_asm); (case h20hk4 => k_asm); (case h20hk5 => k_asm); (case h20hk6 => k_is); (case h20hk7 => k_is); (case h20hk8 => k_room); (case h20hk9 => first | exact BindsTo.of_eq rfl | exact binds_K (by k_in) rfl (by k_is) rfl rfl rfl | fail "k_enter: no rule for these arguments"); (case h20hc5 => decide); (case h20hkB => exact locs rfl); (case h20hc2 => exact rfl); (case h20hc3 => exact rfl); (case h20hc4 => exact rfl); k_whole; intro qg' qL' qh' qFG' qF' qN' qX' qT'; (try dsimp only); (try k_fold))))
  (k_with "call ref" => ((k_here; (with_reducible show wpAny _ _ (call (Value.ref 141) [Value.int _ _]) _ _ _); k_dflt (refine' parts_K ?h21hF ?h21hN ?h21hX ?h21hT ?h21hd ?h21hu ?_; (case h21hF => k_asm); (case h21hN => k_asm); (case h21hX => k_asm); (case h21hT => k_asm); (case h21hd => (first | exact lt_0 (by assumption) rfl | exact lt_1 (by assumption) rfl | exact lt_2 (by assumption) rfl | exact lt_3 (by assumption) rfl | ((try dsimp only); omega))); (case h21hu => (first | exact lt_0 (by assumption) rfl | exact lt_1 (by assumption) rfl | exact lt_2 (by assumption) rfl | exact lt_3 (by assumption) rfl | ((try dsimp only); omega))); k_whole); intro qa' qb' qu1 qu2 qu3 qu4 qu5 qu6 qh' qtk' qF' qN'; (try k_sweep))))
  (k_with "call ref" => ((k_here; (with_reducible show wpAny _ _ (call (Value.ref 31) [Value.str _ _, Value.str _ _]) _ _ _); k_dflt (refine' bad_K ?h22hF ?h22hN ?h22hX ?h22hT ?h22hd ?h22hu ?_; (case h22hF => k_asm); (case h22hN => k_asm); (case h22hX => k_asm); (case h22hT => k_asm); (case h22hd => (first | exact lt_0 (by assumption) rfl | exact lt_1 (by assumption) rfl | exact lt_2 (by assumption) rfl | exact lt_3 (by assumption) rfl | ((try dsimp only); omega))); (case h22hu => (first | exact lt_0 (by assumption) rfl | exact lt_1 (by assumption) rfl | exact lt_2 (by assumption) rfl | exact lt_3 (by assumption) rfl | ((try dsimp only); omega))); k_whole); intro qa' qdx' qd' qhh' qt0' qk' qh' qtk' qF' qN'; (try k_sweep))))
  (k_with "call builtin:bytes.decode" => ((k_here; (with_reducible show wpAny _ _ (call (Value.builtin "bytes.decode") [Value.bytes (oidB _) _, Value.str _ _]) _ _ _); k_dflt (refine' decode_oid ?h23hx ?_; (case h23hx => assumption); k_whole); intro qt' qk')))
  (k_with "getMethod bytes" => ((k_here; k_dflt (refine method_decode ?_))))
  (k_with "subscriptTail" => ((k_here; (with_reducible show wpAny _ _ (subscriptTail _ _ (Value.ref _) (Value.int (if _ then (1 : Int) else 0) _)) _ _ _); k_dflt (refine' item2_ref ?h25hk1 ?h25hk2 ?h25hk3 ?h25hk4 ?_ ?h25hk6; (case h25hk1 => k_asm); (case h25hk2 => k_mem); (case h25hk3 => split <;> decide); (case h25hk4 => split <;> decide); (case h25hk6 => with_unfolding_all rfl); k_whole))))
  (k_with "subscriptTail" => ((k_here; (with_reducible show wpAny _ _ (subscriptTail _ _ (Value.ref _) (Value.int (Int.fmod _ _ - 4) _)) _ _ _); k_dflt (refine' item4_ref ?h26hk1 ?h26hk2 ?h26hk3 ?h26hk4 ?_ ?h26hk6; (case h26hk1 => k_asm); (case h26hk2 => k_mem); (case h26hk3 => omega); (case h26hk4 => omega); (case h26hk6 => with_unfolding_all rfl); k_whole))))
  (k_with "eval Name" => ((k_here; k_dflt (refine' ld ?h27hk1 ?h27hk2 ?_; (case h27hk1 => k_asm); (case h27hk2 => assumption); k_whole))))
  (k_with "k_handed" => (exact oidV_handed (by assumption)))
  refine wpAny_call ?_
  k_dflt (refine' enterC X T ?k8 ?k6 ?k7 ?k9 ?kB ?_ ?c2 ?c3 ?c4 ?c5; (case k6 => k_is); (case k7 => k_is); (case k8 => ktr_room); (case k9 => exact BindsTo.of_eq rfl); (case kB => exact locs rfl); (case c2 => exact rfl); (case c3 => exact rfl); (case c4 => exact rfl); (case c5 => decide))
  intro g h₁ L' hg hL F' N' X' T'
  dsimp only
  have f0 := Int.fmod_nonneg_of_pos n (b := 8) (by decide)
  have f8 := Int.fmod_lt_of_pos n (b := 8) (by decide)
  refine execs_cut3 (PreV n lost g L' s) ?_ ?_
  · cases lost with
    | false =>
      k_steps
      · exact ⟨_, _, _, _, _, _, _, _, rfl, by assumption, by assumption, .inr ⟨by assumption, _, rfl⟩, .inl ⟨rfl, _, _, by k_mem⟩, rfl, rfl, rfl, rfl⟩
      · exact ⟨_, _, _, _, _, _, _, _, rfl, by assumption, by assumption, .inl ⟨x_not1 (by assumption), _, rfl⟩, .inl ⟨rfl, _, _, by k_mem⟩, rfl, rfl, rfl, rfl⟩
    | true =>
      k_steps
      · exact ⟨_, _, _, _, _, _, _, _, rfl, by assumption, by assumption, .inr ⟨by assumption, _, rfl⟩, .inr ⟨bad_yes (by assumption) (by assumption), _, _, _, _, _, _, _, by k_mem, by k_mem, by k_mem⟩, rfl, rfl, rfl, rfl⟩
      · exact ⟨_, _, _, _, _, _, _, _, rfl, by assumption, by assumption, .inr ⟨by assumption, _, rfl⟩, .inl ⟨bad_no2 (by assumption), _, _, by k_mem⟩, rfl, rfl, rfl, rfl⟩
      · exact ⟨_, _, _, _, _, _, _, _, rfl, by assumption, by assumption, .inr ⟨by assumption, _, rfl⟩, .inl ⟨bad_no1 (by assumption), _, _, by k_mem⟩, rfl, rfl, rfl, rfl⟩
      · exact ⟨_, _, _, _, _, _, _, _, rfl, by assumption, by assumption, .inl ⟨x_not1 (by assumption), _, rfl⟩, .inr ⟨bad_yes (by assumption) (by assumption), _, _, _, _, _, _, _, by k_mem, by k_mem, by k_mem⟩, rfl, rfl, rfl, rfl⟩
      · exact ⟨_, _, _, _, _, _, _, _, rfl, by assumption, by assumption, .inl ⟨x_not1 (by assumption), _, rfl⟩, .inl ⟨bad_no2 (by assumption), _, _, by k_mem⟩, rfl, rfl, rfl, rfl⟩
      · exact ⟨_, _, _, _, _, _, _, _, rfl, by assumption, by assumption, .inl ⟨x_not1 (by assumption), _, rfl⟩, .inl ⟨bad_no1 (by assumption), _, _, by k_mem⟩, rfl, rfl, rfl, rfl⟩
  · clear F' N'
    rintro s' ⟨v, c, t3, t4, m', news, h', tk', rfl, F', N', hv, hc, e1, e2, e3, e4⟩
    subst hg
    by_cases h2 : n.fmod 8 < 2
    · k_steps
      (with_reducible rename Fr _ _ _ _ => F9); (with_reducible rename News _ _ _ _ => N9)
      exact hret _ _ _ F9.keep (.f0 h2 hv (nw_of N9 (List.Mem.head _)) (KlC.of N9 (hc.mono fun p hp => by simp only [List.mem_cons, hp, or_true])))
    · by_cases h4 : n.fmod 8 < 4
      · k_steps
        dsimp only
        exact hret _ _ _ F'.keep (.f2 (by omega) h4 hv)
      · k_steps
        (with_reducible rename Fr _ _ _ _ => F9); (with_reducible rename News _ _ _ _ => N9)
        have hf : n.fmod 8 = 4 ∨ n.fmod 8 = 5 ∨ n.fmod 8 = 6 ∨ n.fmod 8 = 7 := by omega
        rcases hf with hf | hf | hf | hf
        · refine hret _ _ _ F9.keep ?_
          rw [if_pos (by omega)]
          exact .f4 hf hv (nw_of N9 (by k_mem)) (nw_of N9 (by k_mem)) (KlC.of N9 (hc.mono fun p hp => by simp only [List.mem_cons, hp, or_true]))
        · refine hret _ _ _ F9.keep ?_
          rw [if_neg (by omega), if_pos (by omega)]
          exact .f5 hf hv (nw_of N9 (by k_mem)) (nw_of N9 (by k_mem))
        · refine hret _ _ _ F9.keep ?_
          rw [if_neg (by omega), if_neg (by omega), if_pos (by omega)]
          have e := (nw_of N9 (List.Mem.tail _ (List.Mem.tail _ (List.Mem.head _))))
          by_cases hb : baseS n = Str.ofString ""
          · rw [if_pos (by rw [hb]; decide)] at e
            exact .f6 hf hb hv e (nw_of N9 (by k_mem))
          · rw [if_neg (by rw [if_pos (by simpa using hb)]; decide)] at e
            exact .f6b hf hb hv e (nw_of N9 (by k_mem))
        · refine hret _ _ _ F9.keep ?_
          rw [if_neg (by omega), if_neg (by omega), if_neg (by omega)]
          exact .f7 hf hv (nw_of N9 (by k_mem))
end
end Mine
namespace Mine
mutual
inductive IsL (news : List (Addr × Obj)) : Value → D → Prop
  | none : IsL news Value.none D.none
  | int (i : Int) (t : Tok) : IsL news (Value.int i t) (D.int i)
  | str (x : Str) (t : Tok) : IsL news (Value.str x t) (D.str x)
  | bytes (b : Array UInt8) (t : Tok) : IsL news (Value.bytes b t) (D.bytes b)
  | tup {a : Addr} {vs : List Value} {ds : List D} {k : Nat} : (a, ({ cls := .type "tuple", data := .seq vs.toArray k } : Obj)) ∈ news → IsLs news vs ds → IsL news (Value.ref a) (D.tup ds)
  | list {a : Addr} {vs : List Value} {ds : List D} {k : Nat} : (a, listOf vs.toArray k) ∈ news → IsLs news vs ds → IsL news (Value.ref a) (D.list ds)
inductive IsLs (news : List (Addr × Obj)) : List Value → List D → Prop
  | nil : IsLs news [] []
  | cons {v : Value} {vs : List Value} {d : D} {ds : List D} : IsL news v d → IsLs news vs ds → IsLs news (v :: vs) (d :: ds)
end
theorem IsL.mono {news news' : List (Addr × Obj)} (hs : ∀ p ∈ news, p ∈ news') {v : Value} {d : D} (x : IsL news v d) : IsL news' v d :=
  IsL.rec (motive_1 := fun v d _ => IsL news' v d) (motive_2 := fun vs ds _ => IsLs news' vs ds) .none .int .str .bytes (fun x _ r => .tup (hs _ x) r) (fun x _ r => .list (hs _ x) r) .nil (fun _ _ a b => .cons a b) x
theorem IsLs.mono {news news' : List (Addr × Obj)} (hs : ∀ p ∈ news, p ∈ news') {vs : List Value} {ds : List D} (x : IsLs news vs ds) : IsLs news' vs ds :=
  IsLs.rec (motive_1 := fun v d _ => IsL news' v d) (motive_2 := fun vs ds _ => IsLs news' vs ds) .none .int .str .bytes (fun x _ r => .tup (hs _ x) r) (fun x _ r => .list (hs _ x) r) .nil (fun _ _ a b => .cons a b) x
theorem IsL.to {h₀ h : Heap} {L : Addr} {news : List (Addr × Obj)} (N : News h₀ L h news) {v : Value} {d : D} (x : IsL news v d) : Is h v d :=
  IsL.rec (motive_1 := fun v d _ => Is h v d) (motive_2 := fun vs ds _ => IsAll h vs ds) .none .int .str .bytes (fun x _ r => .tup ⟨_, (N _ x).1, rfl, _, rfl⟩ r) (fun x _ r => .list ⟨_, (N _ x).1, rfl, _, rfl⟩ r) .nil (fun _ _ a b => .cons a b) x
noncomputable def oidD (n : Int) : D := if (n.fdiv 144).fmod 2 = 1 then .str (oidS n) else .bytes (oidB n)
noncomputable def nmD (n : Int) : D := .tup [.str "m", .str (nameS n)]
/-- what a value of form f stands for -/
noncomputable def valF (f : Int) (s : Str) (o nm : D) : D :=
  if f < 2 then .tup [o, nm]
  else if f < 4 then o
  else if f = 4 then .list [.str "m", .tup [.str s, o, nm]]
  else if f = 5 then .list [.str "n", .tup [.str s, o]]
  else if f = 6 then .list [.str "w", .tup (if s = Str.ofString "" then [o] else [o, .str s])]
  else .list [o]
noncomputable def valD (n : Int) : D := valF (n.fmod 8) (baseS n) (oidD n) (nmD n)
theorem oidV_L {n : Int} {v : Value} (h : OidV n v) (news : List (Addr × Obj)) : IsL news v (oidD n) := by
  rcases h with ⟨h, t, rfl⟩ | ⟨h, t, rfl⟩
  · rw [oidD, if_neg (fun e => no_eq h e rfl)]; exact .bytes _ _
  · rw [oidD, if_pos h]; exact .str _ _
theorem nm_L {n : Int} {c : Addr} {t1 t2 : Tok} {news : List (Addr × Obj)} (h : (c, tupO [.str "m" t1, .str (nameS n) t2]) ∈ news) : IsL news (.ref c) (nmD n) := .tup h (.cons (.str _ _) (.cons (.str _ _) .nil))

theorem isStr_ne {k : Value} {a b : Str} (h : k.isStr a = true) (hab : a ≠ b) : k.isStr b = false := by
  cases k <;> simp_all [Value.isStr]
theorem getL_eq (name : Str) (es : List DictEntry) : getL name es = match (es.find? (·.key.isStr name)).map (·.val) with | some v => some (some v) | none => if es.any (·.refKey) then none else some none := by
  unfold getL
  cases es.find? (·.key.isStr name) <;> rfl
theorem put_any (name : Str) (hh : Int) (t : Tok) (v : Value) : ∀ es : List DictEntry, (putL name hh (.str name t) v es).any (·.refKey) = es.any (·.refKey)
  | [] => rfl
  | e :: r => by
    have ih := put_any name hh t v r
    unfold putL
    split
    · simp [DictEntry.refKey]
    · simp [ih]
theorem put_find_same (name : Str) (hh : Int) (t : Tok) (v : Value) : ∀ es : List DictEntry, ((putL name hh (.str name t) v es).find? (·.key.isStr name)).map (·.val) = some v
  | [] => by
    have : (Value.str name t).isStr name = true := by simp [Value.isStr]
    simp [putL, this]
  | e :: r => by
    have ih := put_find_same name hh t v r
    unfold putL
    by_cases h : e.key.isStr name = true
    · rw [if_pos h]; simp [h]
    · rw [if_neg h]; simp [List.find?_cons, h, ih]
theorem put_find_ne (name other : Str) (hh : Int) (t : Tok) (v : Value) (hne : name ≠ other) : ∀ es : List DictEntry, ((putL name hh (.str name t) v es).find? (·.key.isStr other)).map (·.val) = (es.find? (·.key.isStr other)).map (·.val)
  | [] => by
    have : (Value.str name t).isStr other = false := isStr_ne (a := name) (by simp [Value.isStr]) hne
    simp [putL, this]
  | e :: r => by
    have ih := put_find_ne name other hh t v hne r
    unfold putL
    by_cases h : e.key.isStr name = true
    · rw [if_pos h]
      have h2 := isStr_ne h hne
      simp [List.find?_cons, h2]
    · rw [if_neg h]
      simp only [List.find?_cons]
      cases e.key.isStr other with
      | true => rfl
      | false => exact ih
theorem getL_put_same (name : Str) (hh : Int) (t : Tok) (v : Value) (es : List DictEntry) : getL name (putL name hh (.str name t) v es) = some (some v) := by
  rw [getL_eq, put_find_same]
theorem getL_put_ne (name other : Str) (hh : Int) (t : Tok) (v : Value) (hne : name ≠ other) (es : List DictEntry) : getL other (putL name hh (.str name t) v es) = getL other es := by
  rw [getL_eq, getL_eq, put_find_ne _ _ _ _ _ hne, put_any]
theorem putL_length (name : Str) (hh : Int) (key v : Value) : ∀ es : List DictEntry, (putL name hh key v es).length ≤ es.length + 1
  | [] => by simp [putL]
  | e :: r => by
    have ih := putL_length name hh key v r
    unfold putL
    split
    · exact Nat.le_succ _
    · exact Nat.succ_le_succ ih
end Mine
namespace Mine
/-- a value by the ledger: mu is what PersistentReference(..) turns -/
inductive ValL (nw : List (Addr × Obj)) (n : Int) : Bool → List (Addr × Obj) → Value → Prop
  | f0 {v : Value} {a c : Addr} {t1 t2 : Tok} : n.fmod 8 < 2 → OidV n v → (a, tupO [v, .ref c]) ∈ nw → (c, tupO [.str "m" t1, .str (nameS n) t2]) ∈ nw → ValL nw n false [] (.ref a)
  | f0b {v : Value} {a c dx d : Addr} {hh : Int} {t0 t1 t2 : Tok} {k : Nat} : n.fmod 8 < 2 → OidV n v → (a, tupO [v, .ref c]) ∈ nw → (c, instObj 31 dx) ∈ nw → (dx, dictOf [⟨hh, .str "args" t0, .ref d⟩] k) ∈ nw → (d, tupO [.str "m" t1, .str (nameS n) t2]) ∈ nw → ValL nw n true [] (.ref a)
  | f2 {b : Bool} {v : Value} : 2 ≤ n.fmod 8 → n.fmod 8 < 4 → OidV n v → ValL nw n b [] v
  | f4 {v : Value} {l a c : Addr} {t1 t2 t3 t4 : Tok} {k : Nat} : n.fmod 8 = 4 → OidV n v → (l, listOf #[.str "m" t1, .ref a] k) ∈ nw → (a, tupO [.str (baseS n) t2, v, .ref c]) ∈ nw → (c, tupO [.str "m" t3, .str (nameS n) t4]) ∈ nw → ValL nw n false [] (.ref l)
  | f4b {v : Value} {l a c dx d : Addr} {hh : Int} {t0 t1 t2 t3 t4 : Tok} {k k' : Nat} : n.fmod 8 = 4 → OidV n v → (a, tupO [.str (baseS n) t2, v, .ref c]) ∈ nw → (c, instObj 31 dx) ∈ nw → (dx, dictOf [⟨hh, .str "args" t0, .ref d⟩] k') ∈ nw → (d, tupO [.str "m" t3, .str (nameS n) t4]) ∈ nw → (∀ p ∈ nw, p.1 ≠ l) →
      ValL nw n true [(l, listOf #[.str "m" t1, .ref a] k)] (.ref l)
  | f5 {b : Bool} {v : Value} {l a : Addr} {t1 t2 : Tok} {k : Nat} : n.fmod 8 = 5 → OidV n v → (l, listOf #[.str "n" t1, .ref a] k) ∈ nw → (a, tupO [.str (baseS n) t2, v]) ∈ nw → ValL nw n b [] (.ref l)
  | f6 {b : Bool} {v : Value} {l a : Addr} {t1 : Tok} {k : Nat} : n.fmod 8 = 6 → baseS n = Str.ofString "" → OidV n v → (l, listOf #[.str "w" t1, .ref a] k) ∈ nw → (a, tupO [v]) ∈ nw → ValL nw n b [] (.ref l)
  | f7 {b : Bool} {v : Value} {l : Addr} {k : Nat} : n.fmod 8 = 7 → OidV n v → (l, listOf #[v] k) ∈ nw → ValL nw n b [] (.ref l)
/-- has a database's name -/
noncomputable def hasDb (n : Int) : Bool := decide (n.fmod 8 = 4) || decide (n.fmod 8 = 5) || (decide (n.fmod 8 = 6) && decide (baseS n ≠ Str.ofString ""))
/-- the entries of a reference's dict, its identity standing as v -/
structure RefE (nw : List (Addr × Obj)) (n : Int) (es : List DictEntry) (v : Value) : Prop where
  oid : getL "oid" es = some (some v)
  data : ∃ dv, getL "data" es = some (some dv) ∧ IsL nw dv (valD n)
  weak : getL "weak" es = some (if 5 < n.fmod 8 then some (.bool true) else none)
  dby : hasDb n = true → ∃ t, getL "database_name" es = some (some (.str (baseS n) t))
  dbn : hasDb n = false → getL "database_name" es = some none
  cmp : getL "_cmp" es = some none
  len : es.length ≤ 10
/-- the same without a bound for its length -/
structure RefF (nw : List (Addr × Obj)) (n : Int) (es : List DictEntry) (v : Value) : Prop where
  oid : getL "oid" es = some (some v)
  data : ∃ dv, getL "data" es = some (some dv) ∧ IsL nw dv (valD n)
  weak : getL "weak" es = some (if 5 < n.fmod 8 then some (.bool true) else none)
  dby : hasDb n = true → ∃ t, getL "database_name" es = some (some (.str (baseS n) t))
  dbn : hasDb n = false → getL "database_name" es = some none
  cmp : getL "_cmp" es = some none
theorem RefE.f {nw : List (Addr × Obj)} {n : Int} {es : List DictEntry} {v : Value} (h : RefE nw n es v) : RefF nw n es v := ⟨h.oid, h.data, h.weak, h.dby, h.dbn, h.cmp⟩
/-- behind the first two statements of __init__ -/
def PreR (n : Int) (x dx : Addr) (nw : List (Addr × Obj)) (g : Heap) (L : Addr) (s₀ s' : Shared) : Prop :=
  ∃ v es k tl m' h' tk', s' = { s₀ with heap := h', toks := tk' } ∧ Fr g L h' m' ∧ News g L h' ((x, instObj 109 dx) :: (dx, dictOf es k) :: (tl ++ nw)) ∧ (∀ p ∈ tl ++ nw, p.1 ≠ dx) ∧ x ≠ dx ∧ OidV n v ∧ RefE (tl ++ nw) n es v ∧ m' "self" = some (.ref x)
theorem execs_cut2 {M : Model} {A : Around} {env : Env} {a b : Stmt} {r : List Stmt} {Q : Flow → Shared → Prop} {E : Value → Shared → Prop} {s : Shared} (P : Shared → Prop)
    (h1 : wpAny M A (execs [a, b] env) (fun fl s' => fl = .next ∧ P s') E s) (h2 : ∀ s', P s' → wpAny M A (execs r env) Q E s') : wpAny M A (execs (a :: b :: r) env) Q E s := execs_cut P [a, b] r h1 h2
section
variable {prog : Program} {w : World} {A : Around} {E : Value → Shared → Prop} {s : Shared}
theorem setL {h₀ : Heap} {L D : Addr} {m : Str → Option Value} {news news' : List (Addr × Obj)} {vs : List Value} {n : Nat} {k : Int} {t : Tok} {v : Value} {Q : Unit → Shared → Prop} (F : Fr h₀ L s.heap m) (N : News h₀ L s.heap news) (U : Upd D (listOf vs.toArray n) (listOf (vs.set k.toNat v).toArray n) news news') (h0 : 0 ≤ k) (h1 : k < vs.length) (hfit : k < 2 ^ 63)
    (h : ∀ h', Fr h₀ L h' m → News h₀ L h' news' → Q () { s with heap := h' }) : wpAny (model prog w) A (setItem (.ref D) (.int k t) v) Q E s := by
  obtain ⟨pre, post, rfl, rfl, a, b⟩ := U.split
  have z := N (D, listOf vs.toArray n) (List.mem_append.mpr (.inr (.head _)))
  have hs : vs.toArray.size = vs.length := List.size_toArray ..
  refine ki_setAt z.1 h0 hfit (by omega) (h _ (F.change (Heap.SameBut.update ..) z.2.1 z.2.2) (ki_turn _ N a b ?_ ?_))
  · show vs.toArray.setIfInBounds k.toNat v = (vs.set k.toNat v).toArray
    apply Array.toList_inj.mp
    simp
  · simp
theorem eq_bytes_str {b : Array UInt8} {t : Tok} {x : Str} {u : Tok} {Q : Value → Shared → Prop} (h : Q (.bool false) s) : wpAny (model prog w) A (compareOp .Eq (.bytes b t) (.str x u)) Q E s := rc_bytes_str b t x u prog w E Q h
theorem oidS_size (n : Int) : (oidS n).cps.size = 8 := by
  unfold oidS
  split
  · decide
  · split <;> decide
theorem eq_oid_str {n : Int} {t : Tok} {x : Str} {u : Tok} {Q : Value → Shared → Prop} (hx : x.cps.size = 1) (h : Q (.bool false) s) : wpAny (model prog w) A (compareOp .Eq (.str (oidS n) t) (.str x u)) Q E s := by
  have e : (oidS n == x) = false := by
    rw [beq_eq_false_iff_ne]
    rintro rfl
    exact absurd ((oidS_size n).symm.trans hx) (by decide)
  exact PySem.SeqAt.RcAt.str_str (oidS n) t x u prog w E Q (by rw [e]; exact h)
theorem itemL {l : Addr} {vs : List Value} {i : Int} {v : Value} {u : Tok} {value slice : PySem.Expr} {n : Nat} {Q : Value → Shared → Prop} {h₀ : Heap} {L : Addr} {news : List (Addr × Obj)} (N : News h₀ L s.heap news) (hl : (l, listOf vs.toArray n) ∈ news) (h0 : 0 ≤ i) (h1 : i < 2 ^ 63) (hx : vs[i.toNat]? = some v) (h : Q v s)
    (hs : subscripted slice false (.ref l) (.int i u) = operate [.ref l, .int i u] (getItem (.ref l) (.int i u)) := by with_unfolding_all rfl) :
    wpAny (model prog w) A (subscriptTail value slice (.ref l) (.int i u)) Q E s := by
  have hl' : s.heap.IsList l vs.toArray := ⟨_, (N _ hl).1, rfl, _, rfl⟩
  exact tail_any hl'.typeIs slot_list_getitem.lookup (wpAny_getItem_list hl' h0 h1 (by simpa using hx) h) hs
end
theorem hasDb_lt4 {n : Int} (h : n.fmod 8 < 4) : hasDb n = false := by
  rw [hasDb, decide_eq_false (fun e => no_lt e h rfl), decide_eq_false (fun e => no_lt e h rfl), decide_eq_false (fun e => no_lt e h rfl)]; rfl
theorem hasDb_4 {n : Int} (h : n.fmod 8 = 4) : hasDb n = true := by rw [hasDb, h]; rfl
theorem hasDb_5 {n : Int} (h : n.fmod 8 = 5) : hasDb n = true := by rw [hasDb, h]; rfl
theorem hasDb_6e {n : Int} (h : n.fmod 8 = 6) (hb : baseS n = Str.ofString "") : hasDb n = false := by rw [hasDb, h, decide_eq_false (p := baseS n ≠ _) (fun e => e hb)]; rfl
theorem hasDb_6b {n : Int} (h : n.fmod 8 = 6) (hb : baseS n ≠ Str.ofString "") : hasDb n = true := by rw [hasDb, h, decide_eq_true hb]; rfl
theorem hasDb_7 {n : Int} (h : n.fmod 8 = 7) : hasDb n = false := by rw [hasDb, h]; rfl
theorem valD_lt2 {n : Int} (h : n.fmod 8 < 2) : valD n = .tup [oidD n, nmD n] := if_pos h
theorem valD_lt4 {n : Int} (h2 : 2 ≤ n.fmod 8) (h : n.fmod 8 < 4) : valD n = oidD n := (if_neg (fun e => no_in h2 e rfl)).trans (if_pos h)
theorem valD_4 {n : Int} (h : n.fmod 8 = 4) : valD n = .list [.str "m", .tup [.str (baseS n), oidD n, nmD n]] := congrArg (fun f => valF f (baseS n) (oidD n) (nmD n)) h
theorem valD_5 {n : Int} (h : n.fmod 8 = 5) : valD n = .list [.str "n", .tup [.str (baseS n), oidD n]] := congrArg (fun f => valF f (baseS n) (oidD n) (nmD n)) h
theorem valD_6 {n : Int} (h : n.fmod 8 = 6) : valD n = .list [.str "w", .tup (if baseS n = Str.ofString "" then [oidD n] else [oidD n, .str (baseS n)])] := congrArg (fun f => valF f (baseS n) (oidD n) (nmD n)) h
theorem valD_7 {n : Int} (h : n.fmod 8 = 7) : valD n = .list [oidD n] := congrArg (fun f => valF f (baseS n) (oidD n) (nmD n)) h
theorem ne_of_app {d : Addr} {tl nw : List (Addr × Obj)} (h1 : ∀ p ∈ tl, p.1 ≠ d) (h2 : ∀ p ∈ nw, p.1 ≠ d) : ∀ p ∈ tl ++ nw, p.1 ≠ d := fun p hp => (List.mem_append.mp hp).elim (h1 p) (h2 p)
abbrev nD : Str := Str.ofString "data"
abbrev nO : Str := Str.ofString "oid"
abbrev nB : Str := Str.ofString "database_name"
abbrev nK : Str := Str.ofString "weak"
theorem getL_same (x : Str) (hh : Int) (t : Tok) (v : Value) (r : List DictEntry) : getL x (⟨hh, .str x t, v⟩ :: r) = some (some v) := by
  rw [getL_eq]
  simp [Value.isStr]
theorem getL_next {x y : Str} (hne : x ≠ y) (hh : Int) (t : Tok) (v : Value) (r : List DictEntry) : getL y (⟨hh, .str x t, v⟩ :: r) = getL y r := by
  rw [getL_eq, getL_eq]
  have : (Value.str x t).isStr y = false := isStr_ne (a := x) (by simp [Value.isStr]) hne
  simp only [List.find?_cons, this, List.any_cons]
  rfl
theorem getL_none (y : Str) : getL y [] = some none := rfl
section
variable {nw : List (Addr × Obj)} {n : Int} {dv v : Value} {h1 h2 h3 h4 : Int} {t1 t2 t3 t4 tb tw : Tok}
theorem ref_do (h : IsL nw dv (valD n)) (hw : n.fmod 8 ≤ 5) (hb : hasDb n = false) : RefE nw n [⟨h1, .str nD t1, dv⟩, ⟨h2, .str nO t2, v⟩] v where
  oid := (getL_next (by decide) ..).trans (getL_same ..)
  data := ⟨dv, getL_same .., h⟩
  weak := by rw [if_neg (Int.not_lt.mpr hw)]; exact (getL_next (by decide) ..).trans (getL_next (by decide) ..)
  dby h := by rw [hb] at h; cases h
  dbn _ := (getL_next (by decide) ..).trans (getL_next (by decide) ..)
  cmp := (getL_next (by decide) ..).trans ((getL_next (by decide) ..))
  len := by simp
theorem ref_dbo (h : IsL nw dv (valD n)) (hw : n.fmod 8 ≤ 5) (hb : hasDb n = true) : RefE nw n [⟨h1, .str nD t1, dv⟩, ⟨h3, .str nB t3, .str (baseS n) tb⟩, ⟨h2, .str nO t2, v⟩] v where
  oid := (getL_next (by decide) ..).trans ((getL_next (by decide) ..).trans (getL_same ..))
  data := ⟨dv, getL_same .., h⟩
  weak := by rw [if_neg (Int.not_lt.mpr hw)]; exact (getL_next (by decide) ..).trans ((getL_next (by decide) ..).trans (getL_next (by decide) ..))
  dby _ := ⟨tb, (getL_next (by decide) ..).trans (getL_same ..)⟩
  dbn h := by rw [hb] at h; cases h
  cmp := (getL_next (by decide) ..).trans ((getL_next (by decide) ..).trans ((getL_next (by decide) ..)))
  len := by simp
theorem ref_dow (h : IsL nw dv (valD n)) (hw : 5 < n.fmod 8) (hb : hasDb n = false) : RefE nw n [⟨h1, .str nD t1, dv⟩, ⟨h2, .str nO t2, v⟩, ⟨h4, .str nK t4, .bool true⟩] v where
  oid := (getL_next (by decide) ..).trans (getL_same ..)
  data := ⟨dv, getL_same .., h⟩
  weak := by rw [if_pos hw]; exact (getL_next (by decide) ..).trans ((getL_next (by decide) ..).trans (getL_same ..))
  dby h := by rw [hb] at h; cases h
  dbn _ := (getL_next (by decide) ..).trans ((getL_next (by decide) ..).trans (getL_next (by decide) ..))
  cmp := (getL_next (by decide) ..).trans ((getL_next (by decide) ..).trans ((getL_next (by decide) ..)))
  len := by simp
theorem ref_dobw (h : IsL nw dv (valD n)) (hw : 5 < n.fmod 8) (hb : hasDb n = true) : RefE nw n [⟨h1, .str nD t1, dv⟩, ⟨h2, .str nO t2, v⟩, ⟨h3, .str nB t3, .str (baseS n) tb⟩, ⟨h4, .str nK t4, .bool true⟩] v where
  oid := (getL_next (by decide) ..).trans (getL_same ..)
  data := ⟨dv, getL_same .., h⟩
  weak := by rw [if_pos hw]; exact (getL_next (by decide) ..).trans ((getL_next (by decide) ..).trans ((getL_next (by decide) ..).trans (getL_same ..)))
  dby _ := ⟨tb, (getL_next (by decide) ..).trans ((getL_next (by decide) ..).trans (getL_same ..))⟩
  dbn h := by rw [hb] at h; cases h
  cmp := (getL_next (by decide) ..).trans ((getL_next (by decide) ..).trans ((getL_next (by decide) ..).trans ((getL_next (by decide) ..))))
  len := by simp
end
section
variable {n : Int} {x dx : Addr} {nw : List (Addr × Obj)} {g : Heap} {L : Addr} {s₀ : Shared} {v : Value} {es : List DictEntry} {k : Nat} {m' : Str → Option Value} {h' : Heap} {tk' : Nat} {o o' : Obj} {a b : Addr}
theorem preA (F : Fr g L h' m') (N : News g L h' ((x, instObj 109 dx) :: (dx, dictOf es k) :: nw)) (hl : AllLt dx nw) (hx : dx < x) (hv : OidV n v) (hr : RefE nw n es v) (hm : m' "self" = some (.ref x)) : PreR n x dx nw g L s₀ { s₀ with heap := h', toks := tk' } :=
  ⟨v, es, k, [], m', h', tk', rfl, F, N, ne_tail hl, Nat.ne_of_gt hx, hv, hr, hm⟩
theorem preT (F : Fr g L h' m') (N : News g L h' ((a, o) :: (x, instObj 109 dx) :: (dx, dictOf es k) :: nw)) (hl : AllLt dx nw) (hx : dx < x) (hv : OidV n v) (hr : RefE nw n es v) (hm : m' "self" = some (.ref x)) : PreR n x dx nw g L s₀ { s₀ with heap := h', toks := tk' } :=
  preA F (fun p hp => N p (.tail _ hp)) hl hx hv hr hm
/-- a tuple of the reference's own in front -/
theorem preB (F : Fr g L h' m') (N : News g L h' ((a, o) :: (x, instObj 109 dx) :: (dx, dictOf es k) :: nw)) (hl : AllLt dx nw) (ha : dx < a) (hx : dx < x) (hv : OidV n v) (hr : RefE ((a, o) :: nw) n es v) (hm : m' "self" = some (.ref x)) : PreR n x dx nw g L s₀ { s₀ with heap := h', toks := tk' } :=
  ⟨v, es, k, [(a, o)], m', h', tk', rfl, F, fun p hp => N p (by
    simp only [List.mem_cons, List.cons_append, List.nil_append] at hp ⊢
    rcases hp with hp | hp | hp | hp
    · exact .inr (.inl hp)
    · exact .inr (.inr (.inl hp))
    · exact .inl hp
    · exact .inr (.inr (.inr hp))), fun p hp => by
      rcases List.mem_cons.mp hp with rfl | hp
      · exact Nat.ne_of_gt ha
      · exact ne_tail hl p hp, Nat.ne_of_gt hx, hv, hr, hm⟩
/-- two of the reference's own -/
theorem preC {l : Addr} {ol : Obj} (F : Fr g L h' m') (N : News g L h' ((a, o) :: (b, o') :: (x, instObj 109 dx) :: (dx, dictOf es k) :: (l, ol) :: nw)) (hl : l < dx ∧ AllLt dx nw) (ha : dx < a) (hx : dx < x) (hv : OidV n v) (hr : RefE ((a, o) :: (l, ol) :: nw) n es v) (hm : m' "self" = some (.ref x)) : PreR n x dx nw g L s₀ { s₀ with heap := h', toks := tk' } :=
  ⟨v, es, k, [(a, o), (l, ol)], m', h', tk', rfl, F, fun p hp => N p (by
    simp only [List.mem_cons, List.cons_append, List.nil_append] at hp ⊢
    rcases hp with hp | hp | hp | hp | hp
    · exact .inr (.inr (.inl hp))
    · exact .inr (.inr (.inr (.inl hp)))
    · exact .inl hp
    · exact .inr (.inr (.inr (.inr (.inl hp))))
    · exact .inr (.inr (.inr (.inr (.inr hp))))), fun p hp => by
      rcases List.mem_cons.mp hp with rfl | hp
      · exact Nat.ne_of_gt ha
      · rcases List.mem_cons.mp hp with rfl | hp
        · exact Nat.ne_of_lt hl.1
        · exact ne_tail hl.2 p hp, Nat.ne_of_gt hx, hv, hr, hm⟩
end
end Mine
namespace Mine
theorem plain_value : PlainExc "ValueError" := ⟨fun _ => rfl, rfl⟩
theorem entry_unchain : entryFor table "proto.unchain" = some Builtin.«proto.unchain» := entryFor_of_fast (by kernel_rfl)
section
variable {prog : Program} {w : World} {A : Around} {E : Value → Shared → Prop} {s : Shared}
/-- two values for one place -/
theorem unpackItems_more {t : Addr} {items : Array Value} {Q : List Value → Shared → Prop} (hh : A.handled = none) (ht : IsTup s.heap t items) (hn : 1 < items.size)
    (h : ∀ h₁ h' tk e, Heap.ExtBut s.heap.objs.size s.heap h₁ → Heap.NewExc h₁ h' e "ValueError" → E (.ref e) { s with heap := h', toks := tk }) :
    wpAny (model prog w) A (unpackItems (.ref t) 1 none) Q E s := by
  have hlt : t ≠ s.heap.objs.size := by obtain ⟨o, ho, _⟩ := ht; exact Nat.ne_of_lt (Heap.lt_size ho)
  unfold unpackItems
  refine wpAny_bind ?_
  unfold notIterableAtAll
  refine wpAny_bind (wpAny_specialOf ht.typeIs slot_tuple_iter.lookup ?_)
  refine wpAny_pure ?_
  simp only [Bool.false_eq_true, if_false]
  refine wpAny_bind (wpAny_holding (iter_tuple ht ?_))
  refine wpAny_bind (wpAny_holding (draw_tuple hlt 1 0 _ _ ⟨_, Heap.get?_push_size _ rfl, rfl, rfl⟩ (ht.push _) (by omega) fun h₁ hit₁ hs₁ => ?_))
  rw [if_neg (by simp only [List.drop_zero, List.length_take, Array.length_toList]; omega)]
  have ht₁ : IsTup h₁ t items := (ht.push _).extBut hs₁.extBut hlt
  refine wpAny_bind (wpAny_holding (next_tuple_item (x := items[1]) hit₁ ht₁ (by simp [hn]) fun h₂ hit₂ hs₂ => ?_))
  simp only [Option.isSome_some, if_true]
  refine wpAny_bind (wpAny_rule (wpAny_bind ?_))
  exact wpAny_raiseErrorMade plain_value hh (fun h' tk e hx => h h₂ h' tk e (fun b o hb e' => hs₂.extBut b o hb (hs₁.extBut b o hb (Heap.get?_push_of_some _ e'))) hx) (by size_fits)
theorem assign_more {env : Env} {elts : List Expr} {k} {pos : Pos} {t : Addr} {items : Array Value} {Q : Unit → Shared → Prop} (hh : A.handled = none) (ht : IsTup s.heap t items)
    (hn : (assignEach elts env).length = 1) (hi : 1 < items.size) (hstar : (assignEach elts env).findIdx? (·.1) = none)
    (h : ∀ h₁ h' tk e, Heap.ExtBut s.heap.objs.size s.heap h₁ → Heap.NewExc h₁ h' e "ValueError" → E (.ref e) { s with heap := h', toks := tk }) :
    wpAny (model prog w) A (assign (.Tuple elts k pos) env (.ref t)) Q E s := by
  rw [assign_Tuple]
  refine wpAny_bind (wpAny_standAt ?_)
  unfold unpack
  rw [hstar, hn]
  exact wpAny_bind (wpAny_holding (unpackItems_more hh ht hi h))

/-- the end of a tuple's iterator, an error being handled that has no context -/
theorem next_tuple_endC {it t c : Addr} {i : Nat} {items} {oc : Obj} {vc : Array Value} {Q : Option Value → Shared → Prop} (hh : A.handled = some (.ref c)) (hc0 : s.heap.get? c = some oc) (hcd : oc.data = .fields vc) (hc2 : vc[2]? = some .none) (hci : c ≠ it)
    (hit : IsTupIter s.heap it t i) (ht : IsTup s.heap t items) (hx : items[i]? = none)
    (hQ : ∀ h', Heap.ExtBut it s.heap h' → Q none { s with heap := h' }) : wpAny (model prog w) A (pyNext (.ref it)) Q E s := by
  obtain ⟨o, ho, hc, hd⟩ := id hit
  obtain ⟨ol, hol, _, nl, hdl⟩ := ht
  unfold pyNext
  refine wpAny_bind (wpAny_attempt (wpAny_callSpecial?_slot (name := Str.ofString "__next__") hit.typeIs slot_tupleiter_next
    (wpAny_call_entry slot_tupleiter_next hit.typeIs entry_tupleiter_next ?_ (args_tupleiter_next _))))
  show wpAny _ _ (field (.ref it) 0 >>= _) _ _ s
  refine wpAny_bind (wpAny_field ho hd (x := .ref t) rfl ?_)
  show wpAny _ _ (if (Value.ref t == Value.none) = true then _ else _) _ _ s
  rw [if_neg (show ¬ ((Value.ref t == Value.none) = true) from Bool.false_ne_true)]
  show wpAny _ _ (field (.ref it) 1 >>= _) _ _ s
  refine wpAny_bind (wpAny_field ho hd (x := .int i 0) rfl ?_)
  show wpAny _ _ (seqItems? (.ref t) >>= _) _ _ s
  refine wpAny_bind (wpAny_seqItems hol hdl ?_)
  simp only [Int.toNat_natCast, hx]
  refine wpAny_bind (wpAny_rule (wpAny_bind (wpAny_setField ho hd (by simp) ?_)))
  show wpAny _ _ (newExc (.type "StopIteration") [] >>= _) _ _ _
  refine wpAny_bind ?_
  simp only [newExc, newTuple]
  refine wpAny_bind (wpAny_newObj_type ?_ (by size_fits))
  refine wpAny_bind (m := firstArgMember _ _) (wpAny_of_eq (a := Value.none) (by first | rfl | (simp only [firstArgMember]; rfl)) ?_)
  refine wpAny_newObj_type ?_ (by size_fits)
  simp only [raiseNew]
  refine wpAny_bind (wpAny_handled ?_)
  first | rw [show A.in1.handled = some (.ref c) from hh] | rw [hh]
  have hsz : ∀ (H : Heap) (x : Obj), H.get? c = some oc → (H.push x).get? c = some oc ∧ (Value.ref c != Value.ref H.objs.size) = true := fun H x hH => ⟨Heap.get?_push_of_some _ hH, by
    have := Nat.ne_of_lt (Heap.lt_size hH)
    simp [this]⟩
  have h1 : (s.heap.update it (Obj.mapFields fun x => x.setIfInBounds 0 Value.none)).get? c = some oc := (Heap.get?_update_other _ _ (Ne.symm hci)).trans hc0
  have h2 := (hsz _ { cls := Value.type "tuple", data := Data.seq #[] } h1).1
  obtain ⟨h3, h4⟩ := hsz _ { cls := Value.type "StopIteration", data := Data.fields (#[Value.ref (s.heap.update it (Obj.mapFields fun x => x.setIfInBounds 0 Value.none)).objs.size, Value.none, Value.none, Value.none, Value.bool false, Value.none] ++ ownMembersOf (Value.type "StopIteration") []) } h2
  dsimp only
  rw [if_pos h4]
  refine wpAny_bind (wpAny_holding (wpAny_runValue (codeAny_builtin entry_unchain ?_)))
  show wpAny _ _ (field (.ref c) 2 >>= _) _ _ _
  refine wpAny_bind (wpAny_field h3 hcd hc2 ?_)
  rw [if_pos (by rfl)]
  refine wpAny_bind (wpAny_pure (wpAny_pure ?_))
  refine wpAny_bind (m := updateField _ 2 _) (wpAny_setField (i := 2) (Heap.get?_push_size _ rfl) rfl (by simp; omega) ?_)
  refine wpAny_throw ?_
  refine wpAny_bind (wpAny_isInstance (T := "StopIteration") (b := true) ⟨_, Heap.get?_update_self _ (Heap.get?_push_size _ rfl) rfl, rfl⟩ isSubtype_stop ?_)
  refine wpAny_pure (hQ _ fun b o hb e' => ?_)
  have hb1 : (s.heap.update it (Obj.mapFields fun x => x.setIfInBounds 0 Value.none)).get? b = some o := (Heap.get?_update_other _ _ (Ne.symm hb)).trans e'
  have hb2 := Heap.get?_push_of_some (h := s.heap.update it (Obj.mapFields fun x => x.setIfInBounds 0 Value.none)) { cls := Value.type "tuple", data := Data.seq #[] } hb1
  rw [Heap.get?_update_other _ _ (Nat.ne_of_gt (Heap.lt_size hb2))]
  exact Heap.get?_push_of_some _ hb2
theorem unpackItems_C {t c : Addr} {items : Array Value} {oc : Obj} {vc : Array Value} {Q : List Value → Shared → Prop} (hh : A.handled = some (.ref c)) (hc0 : s.heap.get? c = some oc) (hcd : oc.data = .fields vc) (hc2 : vc[2]? = some .none) (ht : IsTup s.heap t items)
    (hQ : ∀ h', Heap.ExtBut s.heap.objs.size s.heap h' → Q items.toList { s with heap := h' }) : wpAny (model prog w) A (unpackItems (.ref t) items.size none) Q E s := by
  have hlt : t ≠ s.heap.objs.size := by obtain ⟨o, ho, _⟩ := ht; exact Nat.ne_of_lt (Heap.lt_size ho)
  have hci : c ≠ s.heap.objs.size := Nat.ne_of_lt (Heap.lt_size hc0)
  unfold unpackItems
  refine wpAny_bind ?_
  unfold notIterableAtAll
  refine wpAny_bind (wpAny_specialOf ht.typeIs slot_tuple_iter.lookup ?_)
  refine wpAny_pure ?_
  simp only [Bool.false_eq_true, if_false]
  refine wpAny_bind (wpAny_holding (iter_tuple ht ?_))
  refine wpAny_bind (wpAny_holding (draw_tuple hlt items.size 0 _ _ ⟨_, Heap.get?_push_size _ rfl, rfl, rfl⟩ (ht.push _) (by omega) fun h₁ hit₁ hs₁ => ?_))
  have hall : List.take items.size (List.drop 0 items.toList) = items.toList := by
    rw [List.drop_zero]; exact List.take_of_length_le (by simp)
  rw [hall]
  rw [if_neg (by simp)]
  have ht₁ : IsTup h₁ t items := (ht.push _).extBut hs₁.extBut hlt
  refine wpAny_bind (wpAny_holding (next_tuple_endC hh (hs₁.extBut c _ hci (Heap.get?_push_of_some _ hc0)) hcd hc2 hci hit₁ ht₁ (by simp) fun h₂ he₂ => ?_))
  simp only [Option.isSome_none, Bool.false_eq_true, if_false]
  exact wpAny_pure (hQ h₂ fun b o hb e => he₂ b o hb (hs₁.extBut b o hb (Heap.get?_push_of_some _ e)))
theorem assign_C {env : Env} {elts : List Expr} {k} {pos : Pos} {t c : Addr} {items : Array Value} {oc : Obj} {vc : Array Value} {Q : Unit → Shared → Prop} (hh : A.handled = some (.ref c)) (hc0 : s.heap.get? c = some oc) (hcd : oc.data = .fields vc) (hc2 : vc[2]? = some .none) (ht : IsTup s.heap t items)
    (hn : (assignEach elts env).length = items.size) (hstar : (assignEach elts env).findIdx? (·.1) = none)
    (h : ∀ h', Heap.ExtBut s.heap.objs.size s.heap h' → wpAny (model prog w) A (assignInOrder ((assignEach elts env).map (·.2)) items.toList) Q E { s with heap := h' }) :
    wpAny (model prog w) A (assign (.Tuple elts k pos) env (.ref t)) Q E s := by
  rw [assign_Tuple]
  refine wpAny_bind (wpAny_standAt ?_)
  unfold unpack
  rw [hn, hstar]
  exact wpAny_bind (wpAny_holding (unpackItems_C hh hc0 hcd hc2 ht h))
end

/-- an error with its traceback, in flight in no frame, and with no context -/
def FlyC (B : Heap) (l : List Env) (e : Addr) (cls : Value) (h : Heap) : Prop :=
  B.StaysIn h ∧ B.get? e = none ∧ h.FunFrames B l ∧ ∃ oe vs T oT ts, h.get? e = some oe ∧ oe.cls = cls ∧ oe.data = .fields vs ∧ vs[1]? = some (.ref T) ∧ vs[2]? = some .none ∧ B.get? T = none ∧ T ≠ e ∧ h.get? T = some oT ∧ oT.data = .fields ts ∧ 3 < ts.size
section
variable {M : Model} {A : Around} {E : Value → Shared → Prop} {s : Shared}
theorem land_C {B : Heap} {l : List Env} {e : Addr} {cls : Value} {Q : Unit → Shared → Prop} (R : FlyC B l e cls s.heap)
    (h : ∀ h', FlyC B l e cls h' → s.heap.UpToSlots h' → Q () { s with heap := h' }) : wpAny M A (setFlight (.ref e) none) Q E s := by
  obtain ⟨hkb, hen, hl, oe, vs, T, oT, ts, he, hc, hd, h1, h2, hnT, hTe, hT, hdT, hsz3⟩ := R
  have other : ∀ b, b ≠ T → (s.heap.update T (Obj.mapFields (·.setIfInBounds 3 ((none : Option Addr).elim Value.none fun f => rawInt f)))).get? b = s.heap.get? b :=
    fun b hb => Heap.get?_update_other _ _ (Ne.symm hb)
  have apart : ∀ b o, s.heap.get? b = some o → (∀ vs, o.data ≠ .fields vs) → b ≠ T := fun b o hb hnf q => by
    rw [q, hT] at hb; injection hb with hb; subst hb; exact hnf ts hdT
  unfold setFlight
  refine wpAny_bind (wpAny_field he hd h1 ?_)
  rw [if_pos (show (Value.ref T != Value.none) = true from by simp)]
  refine wpAny_setField hT hdT hsz3 (h _ ⟨fun b o hbo => (other b fun q => by rw [q, hnT] at hbo; cases hbo).trans (hkb b o hbo), hen,
    hl.of_keeps fun b o hb hnf => ⟨o, (other b (apart b o hb hnf)).trans hb, rfl⟩, ?_⟩ fun b o hb hnf => ⟨o.slots, (other b (apart b o hb hnf)).trans hb⟩)
  exact ⟨oe, vs, T, _, _, (other e (Ne.symm hTe)).trans he, hc, hd, h1, h2, hnT, hTe, Heap.get?_update_self _ hT (Obj.isFreed_of_fields (Obj.data_mapFields hdT _)), Obj.data_mapFields hdT _, by simp [hsz3]⟩
/-- the first frame that an error meets notes itself -/
theorem note_C {B : Heap} {env : Env} {outer : List Env} {L e : Addr} {oe : Obj} {vs : Array Value} {Q : Unit → Shared → Prop}
    (hfr : A.frames = some (env :: outer)) (hl : s.heap.FunFrames B (env :: outer)) (hf : env.frame = some L)
    (he : s.heap.get? e = some oe) (hkb : B.StaysIn s.heap) (hen : B.get? e = none) (hd : oe.data = .fields vs) (h1 : vs[1]? = some .none) (h2 : vs[2]? = some .none)
    (h : ∀ h', FlyC B (env :: outer) e oe.cls h' → s.heap.UpToSlots h' → Q () { s with heap := h' }) :
    wpAny M A (noteFrame (.ref e) env) Q E s := by
  have hsz : 1 < vs.size := (Array.getElem?_eq_some_iff.mp h1).1
  have hene : e ∉ (env :: outer).filterMap (·.frame) := fun hm => by
    obtain ⟨_, o, ho, hnf⟩ := hl.mem hm
    rw [he] at ho; injection ho with ho; subst ho; exact hnf vs hd
  unfold noteFrame
  simp only [hf]
  refine wpAny_bind (wpAny_field he hd h1 ?_)
  rw [if_neg (by decide)]
  refine wpAny_bind (wpAny_frameOf_fun hfr hl hf fun h₁ hs₁ => ?_)
  refine wpAny_bind (wpAny_entryPlaceOf fun pl hpl => ?_)
  unfold EntryCells.newEntry newFields
  refine wpAny_bind (wpAny_newObj_type ?_ (hpl.sizeOk5 _ _ _ _ _))
  have he₁ : h₁.get? e = some oe := (hs₁.2.1 e hene).trans he
  have kb₁ : B.StaysIn h₁ := fun b o hbo => (hs₁.2.1 b fun hm => by rw [(hl.mem hm).1] at hbo; cases hbo).trans (hkb b o hbo)
  refine wpAny_setField (Heap.get?_push_of_some _ he₁) hd hsz (h _ ?_ ?_)
  · have hTe : h₁.objs.size ≠ e := Nat.ne_of_gt (Heap.lt_size he₁)
    have keep : ∀ (x : Obj) b o, b ≠ e → h₁.get? b = some o → ((h₁.push x).update e (Obj.mapFields (·.setIfInBounds 1 (Value.ref h₁.objs.size)))).get? b = some o := fun x b o hbe hb =>
      (Heap.get?_update_other _ _ (Ne.symm hbe)).trans (Heap.get?_push_of_some _ hb)
    refine ⟨fun b o hbo => keep _ b o (fun q => by rw [q, hen] at hbo; cases hbo) (kb₁ b o hbo), hen, hl.of_keeps fun b o hb hnf => ?_, ?_⟩
    · obtain ⟨sl, hs⟩ := hs₁.2.2 b o hb
      exact ⟨_, keep _ b _ (fun q => by rw [q, he] at hb; injection hb with hb; subst hb; exact hnf vs hd) hs, rfl⟩
    · have hd₃ := Obj.data_mapFields hd (·.setIfInBounds 1 (Value.ref h₁.objs.size))
      refine ⟨_, _, h₁.objs.size, _, _, Heap.get?_update_self _ (Heap.get?_push_of_some _ he₁) (Obj.isFreed_of_fields hd₃), Obj.cls_mapFields _ _, hd₃, by simp [hsz], by rw [Array.getElem?_setIfInBounds_ne (by decide)]; exact h2, kb₁.fresh, hTe,
        (Heap.get?_update_other _ _ (Ne.symm hTe)).trans (Heap.get?_push_size h₁ rfl), rfl, ?_⟩
      simp only [List.size_toArray, List.length_append, List.length_cons, List.length_nil]
      omega
  · intro b o hb hnf
    obtain ⟨sl, hs⟩ := hs₁.2.2 b o hb
    exact ⟨sl, (Heap.get?_update_other _ _ (Ne.symm (fun q => by rw [q, he] at hb; injection hb with hb; subst hb; exact hnf vs hd))).trans (Heap.get?_push_of_some _ hs)⟩
end

section
variable {prog : Program} {w : World} {A₀ : Around} {E : Value → Shared → Prop} {s' : Shared} {base g g₀ h : Heap} {outer : List Env} {L a e : Addr} {m : Str → Option Value} {name : Str} {scope : Scope} {cd : Value}
  {b₀ : Stmt} {suite : List Stmt} {pos np : Pos} {rest : List ExceptHandler} {Q : Flow → Shared → Prop} {news : List (Addr × Obj)} {KF : Frag}
  {p : Program} {loose : List Str} {mean : ExcName → Option Value} {mg mb : Str → Option Value} {x : Str} {X T' : String}
noncomputable def NeAll (e : Addr) (l : List (Addr × Obj)) : Prop := @List.rec (Addr × Obj) (fun _ => Prop) True (fun p _ ih => @Ne Nat p.1 e ∧ ih) l
theorem NeAll_nil {e : Addr} : NeAll e [] = True := rfl
theorem NeAll_cons {e : Addr} {p : Addr × Obj} {r : List (Addr × Obj)} : NeAll e (p :: r) = (@Ne Nat p.1 e ∧ NeAll e r) := rfl
theorem NeAll.of {e : Addr} : ∀ {l : List (Addr × Obj)}, (∀ p ∈ l, p.1 ≠ e) → NeAll e l
  | [], _ => trivial
  | _ :: _, h => ⟨h _ (List.Mem.head _), NeAll.of fun p hp => h p (List.Mem.tail _ hp)⟩
/-- an error raised in the frame of the try itself -/
theorem caught_here (hx : Heap.NewExc h s'.heap e X) (F : Fr g L h m) (N : News g L h news) (K : Below A₀ base outer g) (XB : KF.In base) (TB : Top p loose mean mg mb base)
    (D : KtsDicts (outer.filterMap (·.frame)) g) (T0 : KtsTurn (outer.filterMap (·.frame)) g₀ g)
    (ex : nsIn KF mainGlobals x = some none) (hv : bootBuiltins x = some (.type T')) (hn' : x ≠ "__name__")
    (hexc : isSubtype (.type T') (.type "BaseException") = pure true) (hnt : isSubtype (.type ((Manifest.find? T').elim "type" fun y => y.metatype)) (.type "tuple") = pure false) (hsub : isSubtype (.type X) (.type T') = pure true)
    (k : ∀ h' g' oe vs, NeAll e news → KtsTurn (outer.filterMap (·.frame)) g₀ g' → Fr g' L h' m → News g' L h' ((e, oe) :: news) → oe.data = .fields vs → vs[2]? = some .none → Below A₀ base outer g' → KF.In g' → Top p loose mean mg mb g' → KtsDicts (outer.filterMap (·.frame)) g' →
      wpAny (model prog w) ((A₀.deeper (envOf name scope L a cd)).mark (some (.ref e))) (execs (b₀ :: suite) (envOf name scope L a cd)) Q E { s' with heap := h' })
    (hk : scope.kind = .function := by rfl) (hx' : (envOf name scope L a cd).kindOf x = some .globalImplicit := by rfl) (hd : (x == ("__debug__" : Str)) = false := by decide)
    (hE : PassesOwnAt (model prog w) ((A₀.deeper (envOf name scope L a cd)).mark (some (.ref e))) (A₀.deeper (envOf name scope L a cd)) (envOf name scope L a cd) E := by passes_own) :
    wpAny (model prog w) (A₀.deeper (envOf name scope L a cd)) (noteFrame (.ref e) (envOf name scope L a cd))
      (fun _ s₂ => wpAny (model prog w) (A₀.deeper (envOf name scope L a cd)) (setFlight (.ref e) none) (fun _ s₃ =>
        wpAny (model prog w) (A₀.deeper (envOf name scope L a cd)) (handleBy (.ref e) (envOf name scope L a cd) (.ExceptHandler (some (.Name x np)) none (b₀ :: suite) pos :: rest)) Q E s₃) E s₂) E s' := by
  have K' := K.push (name := name) (a := a) (cd := cd) F hk
  have hin : ∀ env ∈ (envOf name scope L a cd :: outer), ∀ b, env.frame = some b → b ∈ (envOf name scope L a cd :: outer).filterMap (·.frame) := fun env he b hb => List.mem_filterMap.mpr ⟨env, he, hb⟩
  have hBG : ∀ b o, h.get? b = some o → b ∉ (envOf name scope L a cd :: outer).filterMap (·.frame) → (hideAll h ((envOf name scope L a cd :: outer).filterMap (·.frame))).get? b = some o := fun b o q nm => hideAll_get _ q nm
  have hl : ∀ q ∈ news, (hideAll h ((envOf name scope L a cd :: outer).filterMap (·.frame))).get? q.1 = some q.2 ∧ g.get? q.1 = none := fun q hq => by
    refine ⟨hideAll_get _ (N q hq).1 fun hm => ?_, (N q hq).2.2⟩
    obtain ⟨env, he, hf⟩ := List.mem_filterMap.mp hm
    rcases List.mem_cons.mp he with rfl | he
    · exact (N q hq).2.1 (Option.some.inj hf).symm
    · obtain ⟨o, ho, _⟩ := (K.frames.mem (List.mem_filterMap.mpr ⟨env, he, hf⟩)).2
      rw [(N q hq).2.2] at ho; cases ho
  have hL : (hideAll h ((envOf name scope L a cd :: outer).filterMap (·.frame))).get? L = none := by
    have := (funFrames_hide K'.frames hin).mem (List.mem_filterMap.mpr ⟨_, List.mem_cons_self, rfl⟩ : L ∈ (envOf name scope L a cd :: outer).filterMap (·.frame))
    exact this.1
  obtain ⟨ob, tp, he, hcls, hd'⟩ := hx.there
  have hen : (hideAll h ((envOf name scope L a cd :: outer).filterMap (·.frame))).get? e = none := by
    cases q : (hideAll h ((envOf name scope L a cd :: outer).filterMap (·.frame))).get? e with
    | none => rfl
    | some o => have := of_hideAll _ q; rw [hx.new] at this; cases this
  refine note_C (Around.frames_deeper K.stack) ((funFrames_hide K'.frames hin).of_keeps fun b o hb _ => ⟨o, hx.keeps b o hb, rfl⟩) rfl he (fun b o hb => hx.keeps b o (of_hideAll _ hb)) hen hd' rfl rfl fun h₄ hf₄ hsm₄' => ?_
  have hsm₄ := (Heap.UpToSlots.of_keeps hx.keeps).trans hsm₄'
  refine land_C hf₄ fun h₅ hf₅ hsm₅' => ?_
  have hsm₅ := hsm₄.trans hsm₅'
  obtain ⟨g₅, T₅, F₅, K₅⟩ := kts_ground K F hBG hf₅.1 hsm₅
  have X₅ : KF.In g₅ := XB.keeps K₅.stays
  have P₅ : TopRead p loose mg mb g₅ := topRead_of (TB.keeps K₅.stays)
  obtain ⟨_, _, _, oe, _, _, _, _, hoe, hoc, _⟩ := id hf₅
  refine wpAny_handleBy_builtin (X := X) (T := T') (b := true) hexc hnt hsub (name_B F₅ X₅ P₅ ex hv hn' ⟨rfl, ⟨oe, hoe, hoc.trans hcls⟩, ?_⟩ hk hx' hd)
  refine land_C hf₅ fun h₆ hf₆ hsm₆ => ?_
  obtain ⟨g₆, T₆, F₆, K₆⟩ := kts_ground K F hBG hf₆.1 (hsm₅.trans hsm₆)
  have Nl : News g₆ L h₆ news := fun q hq => ⟨hf₆.1 _ _ (hl q hq).1, (fun z => by have := (hl q hq).1; rw [z, hL] at this; cases this), T₆.none_ _ (hl q hq).2⟩
  have X₆ : KF.In g₆ := XB.keeps K₆.stays
  have P₆ : Top p loose mean mg mb g₆ := TB.keeps K₆.stays
  have D₆ : KtsDicts (outer.filterMap (·.frame)) g₆ := D.turn T₆
  obtain ⟨_, _, _, oe, vs, _, _, _, hoe, _, hoed, _, ho2, _⟩ := id hf₆
  have ne₆ : g₆.get? e = none := T₆.none_ _ (kts_none F.keep hx.new)
  have N₆ := News.more F₆ Nl hoe (fun es n q => by rw [hoed] at q; cases q) ne₆
  exact wpAny_passesOwnAt hE (k h₆ g₆ oe vs (NeAll.of fun p hp q => by have h1 := (N p hp).1; rw [q, hx.new] at h1; cases h1) (T0.trans T₆) F₆ N₆ hoed ho2 K₆ X₆ P₆ D₆)
end

section
variable {prog : Program} {w : World} {A : Around} {E : Value → Shared → Prop} {s : Shared} {h₀ : Heap} {L : Addr} {m : Str → Option Value} {news : List (Addr × Obj)}
theorem assign_moreK {env : Env} {elts : List Expr} {k} {pos : Pos} {t : Addr} {items : Array Value} {Q : Unit → Shared → Prop} (F : Fr h₀ L s.heap m) (N : News h₀ L s.heap news) (hh : A.handled = none) (ht : IsTup s.heap t items)
    (hn : (assignEach elts env).length = 1) (hi : 1 < items.size) (hstar : (assignEach elts env).findIdx? (·.1) = none)
    (h : ∀ h₁ h' tk e, Fr h₀ L h₁ m → News h₀ L h₁ news → Heap.NewExc h₁ h' e "ValueError" → E (.ref e) { s with heap := h', toks := tk }) :
    wpAny (model prog w) A (assign (.Tuple elts k pos) env (.ref t)) Q E s :=
  assign_more hh ht hn hi hstar fun h₁ h' tk e he hx => h h₁ h' tk e (F.extBut he (Nat.le_refl _)) (N.extBut he (Nat.le_refl _)) hx
theorem assign_CK {env : Env} {elts : List Expr} {k} {pos : Pos} {t c : Addr} {items : Array Value} {oc : Obj} {vc : Array Value} {Q : Unit → Shared → Prop} (F : Fr h₀ L s.heap m) (N : News h₀ L s.heap news) (hm : (c, oc) ∈ news) (hcd : oc.data = .fields vc) (hc2 : vc[2]? = some .none) (hh : A.handled = some (.ref c)) (ht : IsTup s.heap t items)
    (hn : (assignEach elts env).length = items.size) (hstar : (assignEach elts env).findIdx? (·.1) = none)
    (h : ∀ h', Fr h₀ L h' m → News h₀ L h' news → wpAny (model prog w) A (assignInOrder ((assignEach elts env).map (·.2)) items.toList) Q E { s with heap := h' }) :
    wpAny (model prog w) A (assign (.Tuple elts k pos) env (.ref t)) Q E s :=
  assign_C hh (N _ hm).1 hcd hc2 ht hn hstar fun h' he => h h' (F.extBut he (Nat.le_refl _)) (N.extBut he (Nat.le_refl _))
end

theorem memE {env : Env} {L b : Addr} {outer : List Env} (hf : env.frame = some L) (hm : b ∈ (env :: outer).filterMap (·.frame)) : b = L ∨ b ∈ outer.filterMap (·.frame) := by
  obtain ⟨e, he, hfe⟩ := List.mem_filterMap.mp hm
  rcases List.mem_cons.mp he with rfl | he
  · rw [hf] at hfe
    exact .inl (Option.some.inj hfe).symm
  · exact .inr (List.mem_filterMap.mpr ⟨e, he, hfe⟩)
section
variable {prog : Program} {w : World} {A₀ A : Around} {s : Shared} {base h₀ g₀ : Heap} {outer : List Env} {L a : Addr} {m : Str → Option Value} {env : Env} {news : List (Addr × Obj)} {K : Frag} {p : Program} {loose : List Str} {mean : ExcName → Option Value} {mg mb : Str → Option Value}
    {R : Result → Shared → Prop} {name qual : Str} {params : Arguments} {body : List Stmt} {scope : Scope} {dV kV doc pm cdv ct oc : Value} {an od : Option Addr} {osl : Array (Option Value)} {f : Addr} {args : Args} {binds : List (Str × Value)}
theorem enterE (B : Below A₀ base outer h₀) (F : Fr h₀ L s.heap m) (N : News h₀ L s.heap news) (hA : A.frames = some (env :: outer)) (hf : env.frame = some L) (hck : env.scope.kind = .function) :
    ∃ oL es ep, (hideAll s.heap (news.map (·.1))).get? L = some oL ∧ oL.data = .dict es ep ∧ (∀ h', h'.get? L = some oL → Heap.Ns h' L m) ∧ (∀ (sl : Array (Option Value)) h', h'.get? L = some { oL with slots := sl } → Heap.Ns h' L m) ∧
      h₀.StaysIn (hideAll s.heap (news.map (·.1))) ∧ Below A base (env :: outer) (hideAll s.heap (news.map (·.1))) := by
  have nm : ∀ b o, h₀.get? b = some o → b ∉ news.map (·.1) := fun b o e q => by
    obtain ⟨p, hp, rfl⟩ := List.mem_map.mp q
    rw [(N p hp).2.2] at e; cases e
  have st : h₀.StaysIn (hideAll s.heap (news.map (·.1))) := fun b o e => hideAll_get _ (F.keep b o e) (nm b o e)
  obtain ⟨oL, es, ep, hL, hLd, hLk, hLf⟩ := F.ns
  have nL : L ∉ news.map (·.1) := fun q => by
    obtain ⟨p, hp, e⟩ := List.mem_map.mp q
    exact (N p hp).2.1 e
  have hLg := hideAll_get (news.map (·.1)) hL nL
  have B₁ := pushX B F hf hck
  exact ⟨oL, es, ep, hLg, hLd, fun h' e => ⟨oL, es, ep, e, hLd, hLk, hLf⟩, fun sl h' e => ⟨_, es, ep, e, hLd, hLk, hLf⟩, st, ⟨hA, fun b o e => st b o (B.stays b o e), funFrames_hideAll B₁.frames fun env' he b hb hf' => by
    cases he with
    | head => exact nL ((Option.some.inj (hf.symm.trans hf') : L = b) ▸ hb)
    | tail _ he =>
      obtain ⟨L₁, o₁, hf₁, ho₁⟩ := funFrames_in B.frames env' he
      rw [hf₁] at hf'
      exact nm L₁ o₁ ho₁ ((Option.some.inj hf' : L₁ = b) ▸ hb)⟩⟩
/-- into a def that may raise, from any frame -/
theorem code_defE (B : Below A₀ base outer h₀) (F : Fr h₀ L s.heap m) (X₀ : K.In h₀) (N : News h₀ L s.heap news) (T : Top p loose mean mg mb h₀) (XB : K.In base) (TB : Top p loose mean mg mb base) (D : KtsDicts (outer.filterMap (·.frame)) h₀)
    (T0 : KtsTurn (outer.filterMap (·.frame)) g₀ h₀) (hA : A.frames = some (env :: outer)) (hf : env.frame = some L)
    (ho : K.lookup f = some ⟨oc, od, .func (fnOf name qual params body scope dV kV doc pm an cdv ct), osl⟩) (hcd : codeIn K cdv qual = true) (hroom : A.depth < recursionLimit)
    (hbind : BindsTo s (fnOf name qual params body scope dV kV doc pm an cdv ct) args binds) (hloc : ∀ y ∈ binds, scope.names.lookup y.1 = some .local)
    (h : ∀ g L' h₁, Fr h₀ L g m → Fr g L' h₁ (fun y => binds.reverse.lookup y) → News g L' h₁ news → Below A base (env :: outer) g → K.In g → Top p loose mean mg mb g → KtsDicts ((env :: outer).filterMap (·.frame)) g →
      wpAny (model prog w) (A.deeper (envOf qual scope L' f cdv)) (execs body (envOf qual scope L' f cdv))
        (fun fl s' => LeaveS ((env :: outer).filterMap (·.frame)) A₀ base outer K p loose mean mg mb g₀ h₀ L m g R (match fl with | .ret v => v | _ => .none) s')
        (fun e s' => wpAny (model prog w) (A.deeper (envOf qual scope L' f cdv)) (leaving (envOf qual scope L' f cdv) e) (fun _ s'' => R (.error e) s'') (fun e' s'' => R (.error e') s'') s')
        { s with heap := h₁, toks := s.toks + binds.length })
    (hck : env.scope.kind = .function) (hco : scope.isCoroutine = false) (hgen : scope.isGenerator = false) (hk : scope.kind = .function)
    (hcell : ∀ x ∈ scope.names, x.2 ≠ .cell) : codeAny (model prog w) A (.call (.ref f) args) R s := by
  have X := X₀.keeps F.keep
  refine codeAny_call_def (fd := fnOf name qual params body scope dV kV doc pm an cdv ct) (body := body) (binds := binds) hroom (X _ _ ho) rfl (T.nolimit.keeps F.keep) (codeRec_of X hcd) rfl hbind hcell hloc (fun h₁ hns hk₁ => ?_) hco hgen hk
  obtain ⟨oL, es, ep, hLg, hLd, hN, hNs, st, B₂⟩ := enterE B F N hA hf hck
  refine wpAny_mono (h _ s.heap.objs.size h₁ ⟨hN _ hLg, st, F.above⟩ ⟨hns, fun b o e => hk₁ b o (of_hideAll _ e), Nat.le_of_eq (hideAll_size _ _)⟩
    (fun p hp => ⟨hk₁ _ _ (N p hp).1, Nat.ne_of_lt (Heap.lt_size (N p hp).1), hideAll_none _ (List.mem_map_of_mem hp)⟩) B₂ (X₀.keeps st) (T.keeps st) (fun b hb => by
      rcases memE hf hb with rfl | hb
      · exact ⟨oL, es, ep, hLg, hLd⟩
      · obtain ⟨o, es', n', ho', hd'⟩ := D b hb
        exact ⟨o, es', n', st b o ho', hd'⟩)) (fun fl s' hl => ?_) fun _ _ y => y
  have nL₀ : h₀.get? L = none := kts_self F
  rcases hl with ⟨L', m', news', F', N', k⟩ | ⟨g', L', m', news', T', F', N', k⟩
  · refine k ⟨hN _ (F'.keep _ _ hLg), fun b o e => F'.keep b o (st b o e), F.above⟩ fun p hp => ⟨(N' p hp).1, fun q => ?_, ?_⟩
    · have := (N' p hp).2.2; rw [q, hLg] at this; cases this
    · cases q : h₀.get? p.1 with
      | none => rfl
      | some o => have := (N' p hp).2.2; rw [st _ _ q] at this; cases this
  obtain ⟨sl, hs⟩ := T'.up hLg
  obtain ⟨T₁, S₁⟩ := kts_turn_at (h := s'.heap) (fs := outer.filterMap (·.frame)) (g := h₀)
    (fun b hb => by
      obtain ⟨_, o, ho', _⟩ := B.frames.mem hb
      exact ⟨o, ho'⟩)
    (fun b o e nmem => F'.keep b o (T'.other b o (st b o e) (fun q => by
      rcases memE hf q with z | z
      · rw [z, nL₀] at e
        cases e
      · exact nmem z)))
    (fun b o e hm => by
      obtain ⟨sl', hs'⟩ := T'.up (st b o e)
      exact ⟨sl', F'.keep _ _ hs'⟩)
  have B₃ : Below A₀ base outer (ktsHeap s'.heap (outer.filterMap (·.frame)) h₀) := ⟨B.stack, fun b o e => T₁.other b o (B.stays b o e) (fun hm => by
    rw [(B.frames.mem hm).1] at e
    cases e), B.frames.of_keeps fun b o e _ => by
    obtain ⟨sl', hs'⟩ := T₁.up e
    exact ⟨_, hs', rfl⟩⟩
  refine k _ (T0.trans T₁) ⟨hNs sl _ (F'.keep _ _ hs), S₁, by rw [T₁.size]; exact F.above⟩ (fun p hp => ⟨(N' p hp).1, fun q => ?_, ?_⟩) B₃ (XB.keeps B₃.stays) (TB.keeps B₃.stays) (D.turn T₁)
  · have := (N' p hp).2.2; rw [q, hs] at this; cases this
  · refine T₁.none_ _ ?_
    cases q : h₀.get? p.1 with
    | none => rfl
    | some o =>
      obtain ⟨sl', hs'⟩ := T'.up (st _ _ q)
      have := (N' p hp).2.2
      rw [hs'] at this
      cases this
/-- nothing of a frame's ground turns where no frame lies below it -/
theorem turn0 {g g' h : Heap} {L : Addr} {m : Str → Option Value} {news : List (Addr × Obj)} (T : KtsTurn [] g g') (F : Fr g' L h m) (N : News g' L h news) : Fr g L h m ∧ News g L h news :=
  ⟨⟨F.ns, fun b o e => F.keep b o (T.other b o e (by simp)), by have := F.above; rw [T.size] at this; exact this⟩, fun p hp => ⟨(N p hp).1, (N p hp).2.1, kts_none (fun b o e => T.other b o e (by simp)) (N p hp).2.2⟩⟩
end
end Mine
namespace Mine
theorem method_encode {M : Model} {A : Around} {E : Value → Shared → Prop} {s : Shared} {pl : Sem Bool} {x : Str} {t : Tok} {Q : Value × List Value → Shared → Prop} (h : Q (.builtin "str.encode", [.str x t]) s) : wpAny M A (getMethod (.str x t) "encode" pl) Q E s :=
  getMethod_builtin (typeIs_str _ _ _) F.plainAttrs_str F.slot_str_encode F.type_str_encode (fun a e => by cases e) h
section
variable {w : World} {p : Program} {loose : List Str} {mean : ExcName → Option Value} {mg mb : Str → Option Value} {dp un : Nat} {gd : Option (List Code)} {fr : Option (List Env)} {s : Shared} {Q E : Value → Shared → Prop} {n : Int} {t u : Tok} {x y : Str}
theorem pr6_K {h₀ base : Heap} {L : Addr} {m : Str → Option Value} {nw : List (Addr × Obj)} {A₀ : Around} {outer : List Env} {env : Env} {l a : Addr} {t1 t2 : Tok} {k : Nat} {v : Value}
    (B : Below A₀ base outer h₀) (F : Fr h₀ L s.heap m) (N : News h₀ L s.heap nw) (X : (hd.heap_1 w.params).In h₀) (T : Top p loose mean mg mb h₀) (XB : (hd.heap_1 w.params).In base) (TB : Top p loose mean mg mb base) (D : KtsDicts (outer.filterMap (·.frame)) h₀)
    (hfr : fr = some (env :: outer)) (hef : env.frame = some L) (hck : env.scope.kind = .function) (hdp : dp < 690) (hun : un < 190)
    (hf : n.fmod 8 = 6) (hb : baseS n ≠ Str.ofString "") (hv : OidV n v) (hl : (l, listOf #[.str "w" t1, .ref a] k) ∈ nw) (ha : (a, tupO [v, .str (baseS n) t2]) ∈ nw)
    (hret : ∀ g' x dx es k t h' tk', KtsTurn (outer.filterMap (·.frame)) h₀ g' → Fr g' L h' m → News g' L h' ((x, instObj 109 dx) :: (dx, dictOf es k) :: nw) → Below A₀ base outer g' → (hd.heap_1 w.params).In g' → Top p loose mean mg mb g' → KtsDicts (outer.filterMap (·.frame)) g' → RefF nw n es (.bytes (oidB n) t) → (∀ p ∈ nw, p.1 ≠ x) → Q (.ref x) { s with heap := h', toks := tk' }) :
    wpAny (model PR w) (tA dp un gd fr) (call (.ref 109) [.ref l]) Q E s := by
  k_with_none
  (k_with "ktr_room" => ((first | k_dflt (exact lt_0 (by assumption) rfl) | k_dflt (exact lt_1 (by assumption) rfl) | ((simp only [depth_under_make, depth_under_kw, depth_in1, depth_deeper, depth_caller, recursionLimit] at *); omega))))
  (k_with "k_room" => ((first | k_dflt (exact lt_0 (by assumption) rfl) | k_dflt (exact lt_1 (by assumption) rfl) | ((simp only [depth_under_make, depth_under_kw, depth_in1, depth_deeper, depth_caller, recursionLimit] at *); omega))))
  (k_with "k_units" => ((first | k_dflt (exact lt_0 (by assumption) rfl) | k_dflt (exact lt_1 (by assumption) rfl) | k_dflt (exact lt_2 (by assumption) rfl) | k_dflt (exact lt_3 (by assumption) rfl) | ((have qhcL9 := cLine_is); (simp only [units_in1, units_deeper, Around.mark_units, units_caller, cLine] at *); omega))))
  (k_with "execs cons" => (((first | (with_reducible show wpAny _ _ _ _ _ (Shared.mk _ _ _ (_ + 1) _)) | (with_reducible show wpAny _ _ _ _ _ (Shared.mk _ _ _ (Shared.toks (Shared.mk _ _ _ _ _)) _))); refine tok_gen (fun tk => ?_))))
  (k_with "k_enter" => ((refine' code_defN ?h33hk2 ?h33hk3 ?h33hk4 ?h33hk5 ?h33hk6 ?h33hk7 ?h33hk8 ?h33hk9 ?h33hkB ?_ ?h33hc2 ?h33hc3 ?h33hc4 ?h33hc5; (case h33hk2 => k_asm); (case h33hk3 => k_asm); (case h33hk4 => k_asm); (case h33hk5 => k_asm); (case h33hk6 => k_is); (case h33hk7 => k_is); (case h33hk8 => k_room); (case h33hk9 => first | exact BindsTo.of_eq rfl | exact binds_K (by k_in) rfl (by k_is) rfl rfl rfl | fail "k_enter: no rule for these arguments"); (case h33hc5 => decide); (case h33hkB => exact locs rfl); (case h33hc2 => exact rfl); (case h33hc3 => exact rfl); (case h33hc4 => exact rfl); k_whole; intro qg' qL' qh' qFG' qF' qN' qX' qT'; (try dsimp only); (try k_fold))))
  (k_with "subscriptTail" => ((k_here; (with_reducible show wpAny _ _ (subscriptTail _ _ (Value.ref _) (Value.int _ _)) _ _ _); k_dflt (refine' itemL ?h34hk1 ?h34hk2 ?h34hk3 ?h34hk4 ?h34hk5 ?_ ?h34hk6; (case h34hk1 => k_asm); (case h34hk2 => k_mem); (case h34hk3 => decide); (case h34hk4 => decide); (case h34hk5 => rfl); (case h34hk6 => with_unfolding_all rfl); k_whole))))
  (k_with "k_all" => ((refine ne_tail ?_; first | assumption | exact (by assumption : _ ∧ AllLt _ _).2 | exact (by assumption : _ ∧ _ ∧ AllLt _ _).2.2 | exact (by assumption : _ ∧ _ ∧ _ ∧ AllLt _ _).2.2.2)))
  (k_with "k_all" => (assumption))
  (k_with "k_mem" => (assumption))
  (k_with "getMethod str" => ((k_here; k_dflt (refine method_encode ?_))))
  (k_with "call builtin:str.encode" => ((k_here; k_dflt (refine' encode_oid ?h39hx ?_; (case h39hx => assumption); k_whole); intro qt' qk')))
  (k_with "k_handed" => (exact oidV_handed (by assumption)))
  (k_with "assign Tuple" => ((k_here; (with_reducible show wpAny _ _ (assign (Expr.Tuple _ _ _) _ (Value.ref _)) _ _ _); k_dflt (refine' assign_moreK ?h41hk1 ?h41hk2 ?h41hk4 ?h41hk3 ?h41hk5 ?h41hk7 ?h41hk6 ?_; (case h41hk1 => k_asm); (case h41hk2 => k_asm); (case h41hk3 => exact News.isTup (by k_asm) (by k_mem)); (case h41hk4 => exact rfl); (case h41hk5 => exact rfl); (case h41hk7 => exact Nat.lt_succ_self 1); (case h41hk6 => exact rfl); k_whole); intro qh₁ qh' qtk' qe' qF' qN' qhx'; (try k_sweep))))
  (k_with "assign Tuple" => ((k_here; (with_reducible show wpAny _ _ (assign (Expr.Tuple _ _ _) _ (Value.ref _)) _ _ _); k_dflt (refine' assign_CK ?h42hk1 ?h42hk2 ?h42hm1 ?h42hm2 ?h42hm3 ?h42hk4 ?h42hk3 ?h42hk5 ?h42hk6 ?_; (case h42hk1 => k_asm); (case h42hk2 => k_asm); (case h42hk4 => exact rfl); (case h42hm1 => exact List.Mem.head _); (case h42hm2 => assumption); (case h42hm3 => assumption); (case h42hk3 => exact News.isTup (by k_asm) (by k_mem)); (case h42hk5 => exact rfl); (case h42hk6 => exact rfl); k_whole); intro qh' qF' qN'; (try k_sweep))))
  (k_with "noteFrame ref" => ((k_here; (with_reducible rename Heap.NewExc _ _ _ _ => qhx9); k_dflt (refine' caught_here (T' := "ValueError") qhx9 ?h43hF ?h43hN ?h43hK ?h43hXB ?h43hTB ?h43hD ?h43hT0 ?h43hex PyProof.Rows.Boot.«ValueError» ?h43hhn PySem.F.isExc_ValueError PySem.F.notTuple_ValueError ?h43hhs ?_; (case h43hF => assumption); (case h43hN => k_asm); (case h43hK => assumption); (case h43hXB => assumption); (case h43hTB => assumption); (case h43hD => assumption); (case h43hT0 => first | assumption | exact KtsTurn.refl); (case h43hhs => kts_sub); (case h43hex => k_is); (case h43hhn => decide); k_whole); clear qhx9; intro qh' qg' qoe' qvs' qhne' qT' qF' qN' qhd2' qhc2' qK' qX' qP' qD'; (try k_lift qK'); (try k_sweep); (simp only [NeAll_cons, NeAll_nil] at qhne'))))
  subst hfr
  k_dflt (refine' call_cls ?k1 ?k2 ?k3 ?k4 ?k5 ?k6 ?_; (case k1 => k_asm); (case k2 => k_asm); (case k3 => k_asm); (case k4 => k_is); (case k5 => k_is); (case k6 => k_is); k_whole)
  intro x' d' h' F' N' l1 l2
  replace l2 := ltN l2
  replace l1 := allLt_of l1
  have hnew : ∀ p ∈ nw, p.1 ≠ x' := fun p hp => Nat.ne_of_lt (Nat.lt_trans (ktn_ltOf l1 p hp) l2)
  clear F N
  k_dflt (refine' code_defE ?k1 ?k2 ?k3 ?k4 ?k5 ?XB ?TB ?D ?T0 ?kA ?kE ?k6 ?k7 ?k8 ?k9 ?kB ?_ ?cK ?c2 ?c3 ?c4 ?c5; (case kA => exact rfl); (case kE => exact hef); (case k2 => k_asm); (case k1 => k_asm); (case XB => assumption); (case TB => assumption); (case D => assumption); (case T0 => first | assumption | exact KtsTurn.refl); (case k3 => k_asm); (case k4 => k_asm); (case k5 => k_asm); (case k6 => k_is); (case k7 => k_is); (case k8 => k_room); (case k9 => exact BindsTo.of_eq rfl); (case kB => exact locs rfl); (case cK => exact hck); (case c2 => exact rfl); (case c3 => exact rfl); (case c4 => exact rfl); (case c5 => decide); k_whole)
  intro g' L' h'' FG' F'' N'' B' X' T' D'
  clear F' N' B
  dsimp only
  k_steps
  have hv0 := hv
  rcases hv with ⟨hx, tv, rfl⟩ | ⟨hx, tv, rfl⟩
  · k_steps
    (with_reducible rename News _ _ _ _ => N9)
    exact hret _ _ _ _ _ _ _ _ (by assumption) (by assumption) (fun p hp => N9 p (.tail _ (.tail _ hp))) (by assumption) (by assumption) (by assumption) (by assumption) (ref_dobw (by rw [valD_6 hf, if_neg hb]; exact .list hl (.cons (.str _ _) (.cons (.tup ha (.cons (oidV_L hv0 _) (.cons (.str _ _) .nil))) .nil))) (int_gt hf rfl) (hasDb_6b hf hb)).f hnew
  · k_steps
    (with_reducible rename News _ _ _ _ => N9)
    exact hret _ _ _ _ _ _ _ _ (by assumption) (by assumption) (fun p hp => N9 p (.tail _ (.tail _ hp))) (by assumption) (by assumption) (by assumption) (by assumption) (ref_dobw (by rw [valD_6 hf, if_neg hb]; exact .list hl (.cons (.str _ _) (.cons (.tup ha (.cons (oidV_L hv0 _) (.cons (.str _ _) .nil))) .nil))) (int_gt hf rfl) (hasDb_6b hf hb)).f hnew
end
end Mine
namespace Mine
def Half : Prop := True
theorem isSome_of {name : Str} {es : List DictEntry} {x : Option Value} (h : getL name es = some x) : (getL name es).isSome = true := by rw [h]; rfl
theorem put_le {name : Str} {hh : Int} {key v : Value} {es : List DictEntry} (h : es.length ≤ 10) : (putL name hh key v es).length ≤ 1000 := by
  exact Nat.le_trans (putL_length name hh key v es) (le_1 h rfl)
theorem method_enc2 {M : Model} {A : Around} {E : Value → Shared → Prop} {s : Shared} {pl : Sem Bool} {x : Str} {t : Tok} {Q : Value × List Value → Shared → Prop} (h : Q (.builtin "str.encode", [.str x t]) s) : wpAny M A (getMethod (.str x t) "encode" pl) Q E s :=
  getMethod_builtin (typeIs_str _ _ _) F.plainAttrs_str F.slot_str_encode F.type_str_encode (fun a e => by cases e) h
theorem refE_put {nw : List (Addr × Obj)} {n : Int} {es : List DictEntry} {v v' : Value} {t : Tok} {hh : Int} (h : RefE nw n es v) : 
    RefF nw n (putL nO hh (.str nO t) v' es) v' where
  oid := getL_put_same ..
  data := by obtain ⟨dv, a, b⟩ := h.data; exact ⟨dv, (getL_put_ne _ _ _ _ _ (by decide) _).trans a, b⟩
  weak := (getL_put_ne _ _ _ _ _ (by decide) _).trans h.weak
  dby e := by obtain ⟨t, a⟩ := h.dby e; exact ⟨t, (getL_put_ne _ _ _ _ _ (by decide) _).trans a⟩
  dbn e := (getL_put_ne _ _ _ _ _ (by decide) _).trans (h.dbn e)
  cmp := (getL_put_ne _ _ _ _ _ (by decide) _).trans h.cmp
section
variable {w : World} {p : Program} {loose : List Str} {mean : ExcName → Option Value} {mg mb : Str → Option Value} {dp un : Nat} {gd : Option (List Code)} {fr : Option (List Env)} {s : Shared} {Q E : Value → Shared → Prop} {n : Int} {t u : Tok} {x y : Str}
theorem pr_K {h₀ : Heap} {L : Addr} {m : Str → Option Value} {nw mu : List (Addr × Obj)} {r : Value} {bad : Bool} (F : Fr h₀ L s.heap m) (N : News h₀ L s.heap (mu ++ nw)) (X : (hd.heap_1 w.params).In h₀) (T : Top p loose mean mg mb h₀) (hdp : dp < 690) (hun : un < 190)
    (hval : ValL nw n bad mu r)
    (hret : ∀ x dx es k t tl h' tk', Fr h₀ L h' m → News h₀ L h' ((x, instObj 109 dx) :: (dx, dictOf es k) :: (tl ++ nw)) → RefF (tl ++ nw) n es (.bytes (oidB n) t) → (∀ p ∈ nw, p.1 ≠ x) → Q (.ref x) { s with heap := h', toks := tk' }) :
    wpAny (model PR w) (tA dp un gd fr) (call (.ref 109) [r]) Q E s := by
  k_with_none
  (k_with "ktr_room" => ((first | k_dflt (exact lt_0 (by assumption) rfl) | k_dflt (exact lt_1 (by assumption) rfl) | ((simp only [depth_under_make, depth_under_kw, depth_in1, depth_deeper, depth_caller, recursionLimit] at *); omega))))
  (k_with "k_room" => ((first | k_dflt (exact lt_0 (by assumption) rfl) | k_dflt (exact lt_1 (by assumption) rfl) | ((simp only [depth_under_make, depth_under_kw, depth_in1, depth_deeper, depth_caller, recursionLimit] at *); omega))))
  (k_with "k_units" => ((first | k_dflt (exact lt_0 (by assumption) rfl) | k_dflt (exact lt_1 (by assumption) rfl) | k_dflt (exact lt_2 (by assumption) rfl) | k_dflt (exact lt_3 (by assumption) rfl) | ((have qhcL9 := cLine_is); (simp only [units_in1, units_deeper, Around.mark_units, units_caller, cLine] at *); omega))))
  (k_with "execs cons" => (((first | (with_reducible show wpAny _ _ _ _ _ (Shared.mk _ _ _ (_ + 1) _)) | (with_reducible show wpAny _ _ _ _ _ (Shared.mk _ _ _ (Shared.toks (Shared.mk _ _ _ _ _)) _))); refine tok_gen (fun tk => ?_))))
  (k_with "k_enter" => ((refine' code_defN ?h48hk2 ?h48hk3 ?h48hk4 ?h48hk5 ?h48hk6 ?h48hk7 ?h48hk8 ?h48hk9 ?h48hkB ?_ ?h48hc2 ?h48hc3 ?h48hc4 ?h48hc5; (case h48hk2 => k_asm); (case h48hk3 => k_asm); (case h48hk4 => k_asm); (case h48hk5 => k_asm); (case h48hk6 => k_is); (case h48hk7 => k_is); (case h48hk8 => k_room); (case h48hk9 => first | exact BindsTo.of_eq rfl | exact binds_K (by k_in) rfl (by k_is) rfl rfl rfl | fail "k_enter: no rule for these arguments"); (case h48hc5 => decide); (case h48hkB => exact locs rfl); (case h48hc2 => exact rfl); (case h48hc3 => exact rfl); (case h48hc4 => exact rfl); k_whole; intro qg' qL' qh' qFG' qF' qN' qX' qT'; (try dsimp only); (try k_fold))))
  (k_with "MEM" => ((intro qp qhp; (with_reducible rename News _ _ _ _ => qN9); refine qN9 qp ?_; simp only [List.mem_cons, List.mem_append, List.nil_append, List.cons_append, List.not_mem_nil, false_or, or_false] at qhp ⊢; (first | exact qhp | exact .inr qhp | exact .inr (.inr qhp) | ((repeat' (rcases qhp with qhp | qhp)) <;> simp only [qhp, eq_self, true_or, or_true])))))
  (k_with "subscriptTail" => ((k_here; (with_reducible show wpAny _ _ (subscriptTail _ _ (Value.ref _) (Value.int _ _)) _ _ _); k_dflt (refine' itemL ?h50hk1 ?h50hk2 ?h50hk3 ?h50hk4 ?h50hk5 ?_ ?h50hk6; (case h50hk1 => k_asm); (case h50hk2 => k_mem); (case h50hk3 => decide); (case h50hk4 => decide); (case h50hk5 => rfl); (case h50hk6 => with_unfolding_all rfl); k_whole))))
  (k_with "k_all" => ((refine ne_tail ?_; first | assumption | exact (by assumption : _ ∧ AllLt _ _).2 | exact (by assumption : _ ∧ _ ∧ AllLt _ _).2.2 | exact (by assumption : _ ∧ _ ∧ _ ∧ AllLt _ _).2.2.2)))
  (k_with "k_all" => (assumption))
  (k_with "setItem ref int" => ((k_here; (with_reducible show wpAny _ _ (setItem (Value.ref _) (Value.int _ _) _) _ _ _); k_dflt (refine' setL ?h53hk1 ?h53hk2 ?h53hk3 ?h53hk4 ?h53hk5 ?h53hk6 ?_; (case h53hk1 => k_asm); (case h53hk2 => k_asm); (case h53hk3 => k_upd); (case h53hk4 => decide); (case h53hk5 => decide); (case h53hk6 => decide); k_whole); intro qh' qF' qN'; (try k_sweep))))
  (k_with "compareOp Eq bytes str" => (refine eq_bytes_str ?_))
  (k_with "compareOp Eq str str" => (((with_reducible show wpAny _ _ (compareOp CmpOp.Eq (Value.str (oidS _) _) _) _ _ _); refine eq_oid_str (by decide) ?_)))
  (k_with "k_mem" => (assumption))
  (k_with "k_handed" => (exact oidV_handed (by assumption)))
  (k_with "k_all" => (assumption))
  (k_with "k_get" => (((with_reducible rename Half => qhH9); assumption)))
  (k_with "eval Name" => (((with_reducible rename Half => qhH9); (k_here; k_dflt (refine' ld ?h60hk1 ?h60hk2 ?_; (case h60hk1 => k_asm); (case h60hk2 => assumption); k_whole)))))
  (k_with "k_handed" => (exact oidV_handed (by assumption)))
  (k_with "getMethod str" => ((k_here; k_dflt (refine method_enc2 ?_))))
  (k_with "call builtin:str.encode" => ((k_here; k_dflt (refine' encode_oid ?h63hx ?_; (case h63hx => assumption); k_whole); intro qt' qk')))
  (k_with "setAttr ref" => (((with_reducible rename Half => qhH9); (k_here; k_dflt (refine' set_dict ?h64hk1 ?h64hk2 ?h64hk3 ?h64hk4 ?h64hk5 ?h64hk6 ?h64hk7 ?h64hk8 ?h64hk9 ?h64hk10 ?h64hk11 ?h64hk12 ?h64hk13 ?_; (case h64hk1 => k_asm); (case h64hk2 => k_asm); (case h64hk3 => k_asm); (case h64hk4 => k_inst); (case h64hk5 => exact rfl); (case h64hk6 => k_is); (case h64hk7 => k_is); (case h64hk8 => k_is); (case h64hk9 => k_is); (case h64hk10 => exact isSome_of (by assumption)); (case h64hk11 => exact rfl); (case h64hk12 => k_upd); (case h64hk13 => exact put_le (by assumption)); k_whole); intro qh' qF' qN'; (try k_sweep)))))
  k_dflt (refine' call_cls ?k1 ?k2 ?k3 ?k4 ?k5 ?k6 ?_; (case k1 => k_asm); (case k2 => k_asm); (case k3 => k_asm); (case k4 => k_is); (case k5 => k_is); (case k6 => k_is); k_whole)
  intro x' d' h' F' N' l1 l2
  replace l2 := ltN l2
  replace l1 := allLt_of l1
  have hnew : ∀ p ∈ nw, p.1 ≠ x' := fun p hp => Nat.ne_of_lt (Nat.lt_trans (ktn_ltOf l1 p (List.mem_append_right _ hp)) l2)
  clear F N
  k_dflt (refine' code_defN ?k2 ?k3 ?k4 ?k5 ?k6 ?k7 ?k8 ?k9 ?kB ?_ ?c2 ?c3 ?c4 ?c5; (case k2 => k_asm); (case k3 => k_asm); (case k4 => k_asm); (case k5 => k_asm); (case k6 => k_is); (case k7 => k_is); (case k8 => k_room); (case k9 => exact BindsTo.of_eq rfl); (case c5 => decide); (case kB => exact locs rfl); (case c2 => exact rfl); (case c3 => exact rfl); (case c4 => exact rfl); k_whole)
  intro g' L' h'' FG F'' N'' X' T'
  clear F' N'
  dsimp only
  refine execs_cut2 (PreR n x' d' nw g' L' { s with heap := h'', toks := s.toks }) ?_ ?_
  · cases hval with
    | f0 hf hv ha hc =>
      simp only [List.nil_append] at N'' l1
      k_steps
      (with_reducible rename Fr _ _ _ _ => F9); (with_reducible rename News _ _ _ _ => N9)
      exact preA F9 N9 l1 l2 hv (ref_do (by rw [valD_lt2 hf]; exact .tup ha (.cons (oidV_L hv _) (.cons (nm_L hc) .nil))) (Int.le_of_lt (Int.lt_trans hf (by decide))) (hasDb_lt4 (Int.lt_trans hf (by decide)))) rfl
    | f0b hf hv ha hc hdx hd =>
      simp only [List.nil_append] at N'' l1
      k_steps
      (with_reducible rename Fr _ _ _ _ => F9); (with_reducible rename News _ _ _ _ => N9)
      exact preB F9 N9 l1 (And.left (And.right (by assumption : _ ∧ _ ∧ AllLt _ _))) l2 hv (ref_do (by rw [valD_lt2 hf]; exact .tup (List.Mem.head _) (.cons (oidV_L hv _) (.cons (nm_L (.tail _ hd)) .nil))) (Int.le_of_lt (Int.lt_trans hf (by decide))) (hasDb_lt4 (Int.lt_trans hf (by decide)))) rfl
    | f2 h2 h4 hv =>
      simp only [List.nil_append] at N'' l1
      rcases hv with ⟨hx, t, rfl⟩ | ⟨hx, t, rfl⟩
      · k_steps
        (with_reducible rename Fr _ _ _ _ => F9); (with_reducible rename News _ _ _ _ => N9)
        exact preT F9 N9 l1 l2 (.inl ⟨hx, _, rfl⟩) (ref_do (by rw [valD_lt4 h2 h4]; exact oidV_L (.inl ⟨hx, _, rfl⟩) _) (Int.le_of_lt (Int.lt_trans h4 (by decide))) (hasDb_lt4 h4)) rfl
      · k_steps
        (with_reducible rename Fr _ _ _ _ => F9); (with_reducible rename News _ _ _ _ => N9)
        exact preT F9 N9 l1 l2 (.inr ⟨hx, _, rfl⟩) (ref_do (by rw [valD_lt4 h2 h4]; exact oidV_L (.inr ⟨hx, _, rfl⟩) _) (Int.le_of_lt (Int.lt_trans h4 (by decide))) (hasDb_lt4 h4)) rfl
    | f4 hf hv hl ha hc =>
      simp only [List.nil_append] at N'' l1
      k_steps
      (with_reducible rename Fr _ _ _ _ => F9); (with_reducible rename News _ _ _ _ => N9)
      exact preT F9 N9 l1 l2 hv (ref_dbo (by rw [valD_4 hf]; exact .list hl (.cons (.str _ _) (.cons (.tup ha (.cons (.str _ _) (.cons (oidV_L hv _) (.cons (nm_L hc) .nil)))) .nil))) (int_le hf rfl) (hasDb_4 hf)) rfl
    | f4b hf hv ha hc hdx hd hl =>
      simp only [List.cons_append, List.nil_append, AllLt] at N'' l1
      k_steps
      (with_reducible rename Fr _ _ _ _ => F9); (with_reducible rename News _ _ _ _ => N9)
      exact preC F9 N9 l1 (And.left (And.right (And.right (by assumption : _ ∧ _ ∧ _ ∧ _ ∧ AllLt _ _)))) l2 hv (ref_dbo (by rw [valD_4 hf]; exact .list (List.Mem.tail _ (List.Mem.head _)) (.cons (.str _ _) (.cons (.tup (List.Mem.head _) (.cons (.str _ _) (.cons (oidV_L hv _) (.cons (nm_L (.tail _ (.tail _ hd))) .nil)))) .nil))) (int_le hf rfl) (hasDb_4 hf)) rfl
    | f5 hf hv hl ha =>
      simp only [List.nil_append] at N'' l1
      k_steps
      (with_reducible rename Fr _ _ _ _ => F9); (with_reducible rename News _ _ _ _ => N9)
      exact preT F9 N9 l1 l2 hv (ref_dbo (by rw [valD_5 hf]; exact .list hl (.cons (.str _ _) (.cons (.tup ha (.cons (.str _ _) (.cons (oidV_L hv _) .nil))) .nil))) (int_le hf rfl) (hasDb_5 hf)) rfl
    | f6 hf hb hv hl ha =>
      simp only [List.nil_append] at N'' l1
      k_steps
      (with_reducible rename Fr _ _ _ _ => F9); (with_reducible rename News _ _ _ _ => N9)
      exact preT F9 N9 l1 l2 hv (ref_dow (by rw [valD_6 hf, if_pos hb]; exact .list hl (.cons (.str _ _) (.cons (.tup ha (.cons (oidV_L hv _) .nil)) .nil))) (int_gt hf rfl) (hasDb_6e hf hb)) rfl
    | f7 hf hv hl =>
      simp only [List.nil_append] at N'' l1
      rcases hv with ⟨hx, t, rfl⟩ | ⟨hx, t, rfl⟩
      · k_steps
        (with_reducible rename Fr _ _ _ _ => F9); (with_reducible rename News _ _ _ _ => N9)
        exact preT F9 N9 l1 l2 (.inl ⟨hx, _, rfl⟩) (ref_dow (by rw [valD_7 hf]; exact .list hl (.cons (oidV_L (.inl ⟨hx, _, rfl⟩) _) .nil)) (int_gt hf rfl) (hasDb_7 hf)) rfl
      · k_steps
        (with_reducible rename Fr _ _ _ _ => F9); (with_reducible rename News _ _ _ _ => N9)
        exact preT F9 N9 l1 l2 (.inr ⟨hx, _, rfl⟩) (ref_dow (by rw [valD_7 hf]; exact .list hl (.cons (oidV_L (.inr ⟨hx, _, rfl⟩) _) .nil)) (int_gt hf rfl) (hasDb_7 hf)) rfl
  · clear F'' N'' l1
    rintro s' ⟨v, es, k, tl, m', h', tk', rfl, F', N', hall, hxd, hv, hr, e1⟩
    have eo := hr.oid
    have el := hr.len
    have hHalf : Half := trivial
    rcases hv with ⟨hx, t, rfl⟩ | ⟨hx, t, rfl⟩
    · k_steps
      exact hret _ _ _ _ _ _ _ _ (by assumption) (by assumption) hr.f hnew
    · k_steps
      exact hret _ _ _ _ _ _ _ _ (by assumption) (by assumption) (refE_put hr) hnew
end
end Mine
namespace Mine
theorem IsL.handed {nw : List (Addr × Obj)} {v : Value} {d : D} (h : IsL nw v d) : handedIn v = true := by cases h <;> rfl
/-- a reference made of number n stands at x -/
def RefN (nw : List (Addr × Obj)) (n : Int) (x : Addr) : Prop := ∃ dx es k t, (x, instObj 109 dx) ∈ nw ∧ (dx, dictOf es k) ∈ nw ∧ RefF nw n es (.bytes (oidB n) t)
theorem RefF.mono {nw nw' : List (Addr × Obj)} {n : Int} {es : List DictEntry} {v : Value} (h : RefF nw n es v) (hs : ∀ p ∈ nw, p ∈ nw') : RefF nw' n es v :=
  ⟨h.oid, by obtain ⟨dv, a, b⟩ := h.data; exact ⟨dv, a, b.mono hs⟩, h.weak, h.dby, h.dbn, h.cmp⟩
theorem RefN.mono {nw nw' : List (Addr × Obj)} {n : Int} {x : Addr} (h : RefN nw n x) (hs : ∀ p ∈ nw, p ∈ nw') : RefN nw' n x := by
  obtain ⟨dx, es, k, t, a, b, c⟩ := h
  exact ⟨dx, es, k, t, hs _ a, hs _ b, c.mono hs⟩
/-- the database's name, or None -/
def DbV (n : Int) (v : Value) : Prop := (hasDb n = true ∧ ∃ t, v = .str (baseS n) t) ∨ (hasDb n = false ∧ v = .none)
def weakB (n : Int) : Bool := decide (5 < n.fmod 8)
section
variable {w : World} {A : Around} {s : Shared} {E : Value → Shared → Prop} {h₀ : Heap} {L : Addr} {m : Str → Option Value} {nw : List (Addr × Obj)} {n : Int} {x : Addr} {b : Bool} {Q : Value → Shared → Prop}
theorem ref_oid (F : Fr h₀ L s.heap m) (X : (hd.heap_1 w.params).In h₀) (N : News h₀ L s.heap nw) (R : RefN nw n x) (h : ∀ t k, Q (.bytes (oidB n) t) { s with toks := k }) : wpAny (model PR w) A (getAttr (.ref x) "oid" b) Q E s := by
  k_with_none
  (k_with "ktr_room" => ((first | k_dflt (exact lt_0 (by assumption) rfl) | k_dflt (exact lt_1 (by assumption) rfl) | ((simp only [depth_under_make, depth_under_kw, depth_in1, depth_deeper, depth_caller, recursionLimit] at *); omega))))
  (k_with "k_room" => ((first | k_dflt (exact lt_0 (by assumption) rfl) | k_dflt (exact lt_1 (by assumption) rfl) | ((simp only [depth_under_make, depth_under_kw, depth_in1, depth_deeper, depth_caller, recursionLimit] at *); omega))))
  (k_with "k_units" => ((first | k_dflt (exact lt_0 (by assumption) rfl) | k_dflt (exact lt_1 (by assumption) rfl) | k_dflt (exact lt_2 (by assumption) rfl) | k_dflt (exact lt_3 (by assumption) rfl) | ((have qhcL9 := cLine_is); (simp only [units_in1, units_deeper, Around.mark_units, units_caller, cLine] at *); omega))))
  (k_with "execs cons" => (((first | (with_reducible show wpAny _ _ _ _ _ (Shared.mk _ _ _ (_ + 1) _)) | (with_reducible show wpAny _ _ _ _ _ (Shared.mk _ _ _ (Shared.toks (Shared.mk _ _ _ _ _)) _))); refine tok_gen (fun tk => ?_))))
  (k_with "k_enter" => ((refine' code_defN ?h69hk2 ?h69hk3 ?h69hk4 ?h69hk5 ?h69hk6 ?h69hk7 ?h69hk8 ?h69hk9 ?h69hkB ?_ ?h69hc2 ?h69hc3 ?h69hc4 ?h69hc5; (case h69hk2 => k_asm); (case h69hk3 => k_asm); (case h69hk4 => k_asm); (case h69hk5 => k_asm); (case h69hk6 => k_is); (case h69hk7 => k_is); (case h69hk8 => k_room); (case h69hk9 => first | exact BindsTo.of_eq rfl | exact binds_K (by k_in) rfl (by k_is) rfl rfl rfl | fail "k_enter: no rule for these arguments"); (case h69hc5 => decide); (case h69hkB => exact locs rfl); (case h69hc2 => exact rfl); (case h69hc3 => exact rfl); (case h69hc4 => exact rfl); k_whole; intro qg' qL' qh' qFG' qF' qN' qX' qT'; (try dsimp only); (try k_fold))))
  (k_with "k_mem" => (assumption))
  (k_with "k_get" => (assumption))
  obtain ⟨dx, es, k, t, h1, h2, r⟩ := R
  have e := r.oid
  k_dflt (refine' get_own ?k1 ?k2 ?k3 ?k4 ?k5 ?k6 ?k7 ?k8 ?k9 ?_; (case k1 => k_asm); (case k2 => k_asm); (case k3 => k_inst); (case k4 => k_is); (case k5 => k_is); (case k6 => k_is); (case k7 => k_is); (case k8 => k_get); (case k9 => k_handed); k_whole)
  exact h _ _
theorem ref_data (F : Fr h₀ L s.heap m) (X : (hd.heap_1 w.params).In h₀) (N : News h₀ L s.heap nw) (R : RefN nw n x) (h : ∀ v k, IsL nw v (valD n) → Q v { s with toks := k }) : wpAny (model PR w) A (getAttr (.ref x) "data" b) Q E s := by
  k_with_none
  (k_with "ktr_room" => ((first | k_dflt (exact lt_0 (by assumption) rfl) | k_dflt (exact lt_1 (by assumption) rfl) | ((simp only [depth_under_make, depth_under_kw, depth_in1, depth_deeper, depth_caller, recursionLimit] at *); omega))))
  (k_with "k_room" => ((first | k_dflt (exact lt_0 (by assumption) rfl) | k_dflt (exact lt_1 (by assumption) rfl) | ((simp only [depth_under_make, depth_under_kw, depth_in1, depth_deeper, depth_caller, recursionLimit] at *); omega))))
  (k_with "k_units" => ((first | k_dflt (exact lt_0 (by assumption) rfl) | k_dflt (exact lt_1 (by assumption) rfl) | k_dflt (exact lt_2 (by assumption) rfl) | k_dflt (exact lt_3 (by assumption) rfl) | ((have qhcL9 := cLine_is); (simp only [units_in1, units_deeper, Around.mark_units, units_caller, cLine] at *); omega))))
  (k_with "execs cons" => (((first | (with_reducible show wpAny _ _ _ _ _ (Shared.mk _ _ _ (_ + 1) _)) | (with_reducible show wpAny _ _ _ _ _ (Shared.mk _ _ _ (Shared.toks (Shared.mk _ _ _ _ _)) _))); refine tok_gen (fun tk => ?_))))
  (k_with "k_enter" => ((refine' code_defN ?h69hk2 ?h69hk3 ?h69hk4 ?h69hk5 ?h69hk6 ?h69hk7 ?h69hk8 ?h69hk9 ?h69hkB ?_ ?h69hc2 ?h69hc3 ?h69hc4 ?h69hc5; (case h69hk2 => k_asm); (case h69hk3 => k_asm); (case h69hk4 => k_asm); (case h69hk5 => k_asm); (case h69hk6 => k_is); (case h69hk7 => k_is); (case h69hk8 => k_room); (case h69hk9 => first | exact BindsTo.of_eq rfl | exact binds_K (by k_in) rfl (by k_is) rfl rfl rfl | fail "k_enter: no rule for these arguments"); (case h69hc5 => decide); (case h69hkB => exact locs rfl); (case h69hc2 => exact rfl); (case h69hc3 => exact rfl); (case h69hc4 => exact rfl); k_whole; intro qg' qL' qh' qFG' qF' qN' qX' qT'; (try dsimp only); (try k_fold))))
  (k_with "k_mem" => (assumption))
  (k_with "k_get" => (assumption))
  obtain ⟨dx, es, k, t, h1, h2, r⟩ := R
  obtain ⟨v, e, hv⟩ := r.data
  have hh := hv.handed
  k_dflt (refine' get_own ?k1 ?k2 ?k3 ?k4 ?k5 ?k6 ?k7 ?k8 ?k9 ?_; (case k1 => k_asm); (case k2 => k_asm); (case k3 => k_inst); (case k4 => k_is); (case k5 => k_is); (case k6 => k_is); (case k7 => k_is); (case k8 => k_get); (case k9 => exact hh); k_whole)
  exact h _ _ hv
theorem ref_db (F : Fr h₀ L s.heap m) (X : (hd.heap_1 w.params).In h₀) (N : News h₀ L s.heap nw) (R : RefN nw n x) (h : ∀ v k, DbV n v → Q v { s with toks := k }) : wpAny (model PR w) A (getAttr (.ref x) "database_name" b) Q E s := by
  k_with_none
  (k_with "ktr_room" => ((first | k_dflt (exact lt_0 (by assumption) rfl) | k_dflt (exact lt_1 (by assumption) rfl) | ((simp only [depth_under_make, depth_under_kw, depth_in1, depth_deeper, depth_caller, recursionLimit] at *); omega))))
  (k_with "k_room" => ((first | k_dflt (exact lt_0 (by assumption) rfl) | k_dflt (exact lt_1 (by assumption) rfl) | ((simp only [depth_under_make, depth_under_kw, depth_in1, depth_deeper, depth_caller, recursionLimit] at *); omega))))
  (k_with "k_units" => ((first | k_dflt (exact lt_0 (by assumption) rfl) | k_dflt (exact lt_1 (by assumption) rfl) | k_dflt (exact lt_2 (by assumption) rfl) | k_dflt (exact lt_3 (by assumption) rfl) | ((have qhcL9 := cLine_is); (simp only [units_in1, units_deeper, Around.mark_units, units_caller, cLine] at *); omega))))
  (k_with "execs cons" => (((first | (with_reducible show wpAny _ _ _ _ _ (Shared.mk _ _ _ (_ + 1) _)) | (with_reducible show wpAny _ _ _ _ _ (Shared.mk _ _ _ (Shared.toks (Shared.mk _ _ _ _ _)) _))); refine tok_gen (fun tk => ?_))))
  (k_with "k_enter" => ((refine' code_defN ?h69hk2 ?h69hk3 ?h69hk4 ?h69hk5 ?h69hk6 ?h69hk7 ?h69hk8 ?h69hk9 ?h69hkB ?_ ?h69hc2 ?h69hc3 ?h69hc4 ?h69hc5; (case h69hk2 => k_asm); (case h69hk3 => k_asm); (case h69hk4 => k_asm); (case h69hk5 => k_asm); (case h69hk6 => k_is); (case h69hk7 => k_is); (case h69hk8 => k_room); (case h69hk9 => first | exact BindsTo.of_eq rfl | exact binds_K (by k_in) rfl (by k_is) rfl rfl rfl | fail "k_enter: no rule for these arguments"); (case h69hc5 => decide); (case h69hkB => exact locs rfl); (case h69hc2 => exact rfl); (case h69hc3 => exact rfl); (case h69hc4 => exact rfl); k_whole; intro qg' qL' qh' qFG' qF' qN' qX' qT'; (try dsimp only); (try k_fold))))
  (k_with "k_mem" => (assumption))
  (k_with "k_get" => (assumption))
  obtain ⟨dx, es, k, t, h1, h2, r⟩ := R
  cases hb : hasDb n with
  | true =>
    obtain ⟨u, e⟩ := r.dby hb
    k_dflt (refine' get_own ?k1 ?k2 ?k3 ?k4 ?k5 ?k6 ?k7 ?k8 ?k9 ?_; (case k1 => k_asm); (case k2 => k_asm); (case k3 => k_inst); (case k4 => k_is); (case k5 => k_is); (case k6 => k_is); (case k7 => k_is); (case k8 => k_get); (case k9 => k_handed); k_whole)
    exact h _ _ (.inl ⟨hb, _, rfl⟩)
  | false =>
    have e := r.dbn hb
    k_dflt (refine' get_cls ?k1 ?k2 ?k3 ?k4 ?k5 ?k6 ?k7 ?k8 ?k9 ?k10 ?_; (case k1 => k_asm); (case k2 => k_asm); (case k3 => k_inst); (case k4 => k_is); (case k5 => k_is); (case k6 => k_is); (case k7 => k_is); (case k8 => k_handed); (case k9 => decide +kernel); (case k10 => k_get); k_whole)
    exact h _ _ (.inr ⟨hb, rfl⟩)
theorem ref_weak (F : Fr h₀ L s.heap m) (X : (hd.heap_1 w.params).In h₀) (N : News h₀ L s.heap nw) (R : RefN nw n x) (h : ∀ k, Q (.bool (weakB n)) { s with toks := k }) : wpAny (model PR w) A (getAttr (.ref x) "weak" b) Q E s := by
  k_with_none
  (k_with "ktr_room" => ((first | k_dflt (exact lt_0 (by assumption) rfl) | k_dflt (exact lt_1 (by assumption) rfl) | ((simp only [depth_under_make, depth_under_kw, depth_in1, depth_deeper, depth_caller, recursionLimit] at *); omega))))
  (k_with "k_room" => ((first | k_dflt (exact lt_0 (by assumption) rfl) | k_dflt (exact lt_1 (by assumption) rfl) | ((simp only [depth_under_make, depth_under_kw, depth_in1, depth_deeper, depth_caller, recursionLimit] at *); omega))))
  (k_with "k_units" => ((first | k_dflt (exact lt_0 (by assumption) rfl) | k_dflt (exact lt_1 (by assumption) rfl) | k_dflt (exact lt_2 (by assumption) rfl) | k_dflt (exact lt_3 (by assumption) rfl) | ((have qhcL9 := cLine_is); (simp only [units_in1, units_deeper, Around.mark_units, units_caller, cLine] at *); omega))))
  (k_with "execs cons" => (((first | (with_reducible show wpAny _ _ _ _ _ (Shared.mk _ _ _ (_ + 1) _)) | (with_reducible show wpAny _ _ _ _ _ (Shared.mk _ _ _ (Shared.toks (Shared.mk _ _ _ _ _)) _))); refine tok_gen (fun tk => ?_))))
  (k_with "k_enter" => ((refine' code_defN ?h69hk2 ?h69hk3 ?h69hk4 ?h69hk5 ?h69hk6 ?h69hk7 ?h69hk8 ?h69hk9 ?h69hkB ?_ ?h69hc2 ?h69hc3 ?h69hc4 ?h69hc5; (case h69hk2 => k_asm); (case h69hk3 => k_asm); (case h69hk4 => k_asm); (case h69hk5 => k_asm); (case h69hk6 => k_is); (case h69hk7 => k_is); (case h69hk8 => k_room); (case h69hk9 => first | exact BindsTo.of_eq rfl | exact binds_K (by k_in) rfl (by k_is) rfl rfl rfl | fail "k_enter: no rule for these arguments"); (case h69hc5 => decide); (case h69hkB => exact locs rfl); (case h69hc2 => exact rfl); (case h69hc3 => exact rfl); (case h69hc4 => exact rfl); k_whole; intro qg' qL' qh' qFG' qF' qN' qX' qT'; (try dsimp only); (try k_fold))))
  (k_with "k_mem" => (assumption))
  (k_with "k_get" => (assumption))
  obtain ⟨dx, es, k, t, h1, h2, r⟩ := R
  have e := r.weak
  by_cases hw : 5 < n.fmod 8
  · rw [if_pos hw] at e
    k_dflt (refine' get_own ?k1 ?k2 ?k3 ?k4 ?k5 ?k6 ?k7 ?k8 ?k9 ?_; (case k1 => k_asm); (case k2 => k_asm); (case k3 => k_inst); (case k4 => k_is); (case k5 => k_is); (case k6 => k_is); (case k7 => k_is); (case k8 => k_get); (case k9 => k_handed); k_whole)
    have := h (s.toks + 1)
    rw [weakB, decide_eq_true hw] at this
    exact this
  · rw [if_neg hw] at e
    k_dflt (refine' get_cls ?k1 ?k2 ?k3 ?k4 ?k5 ?k6 ?k7 ?k8 ?k9 ?k10 ?_; (case k1 => k_asm); (case k2 => k_asm); (case k3 => k_inst); (case k4 => k_is); (case k5 => k_is); (case k6 => k_is); (case k7 => k_is); (case k8 => k_handed); (case k9 => decide +kernel); (case k10 => k_get); k_whole)
    have := h (s.toks + 1)
    rw [weakB, decide_eq_false hw] at this
    exact this
end
end Mine
namespace Mine
noncomputable def dbO (n : Int) : Option Str := if hasDb n = true then some (baseS n) else none
noncomputable def alikeB (n k : Int) : Bool := decide (oidB n = oidB k) && decide (dbO n = dbO k) && !weakB n && !weakB k
theorem alike_yes {n k : Int} (h1 : oidB n = oidB k) (h2 : dbO n = dbO k) (h3 : weakB n = false) (h4 : weakB k = false) : alikeB n k = true := by simp [alikeB, h1, h2, h3, h4]
theorem alike_no1 {n k : Int} (h1 : ¬ oidB n = oidB k) : alikeB n k = false := by simp [alikeB, h1]
theorem alike_no2 {n k : Int} (h1 : ¬ dbO n = dbO k) : alikeB n k = false := by simp [alikeB, h1]
theorem alike_no3 {n k : Int} (h1 : weakB n = true) : alikeB n k = false := by simp [alikeB, h1]
theorem alike_no4 {n k : Int} (h1 : weakB k = true) : alikeB n k = false := by simp [alikeB, h1]
/-- what a reference is compared with -/
inductive Oth (nw : List (Addr × Obj)) (x : Addr) (n : Int) : Bool → Value → Prop
  | same : Oth nw x n true (.ref x)
  | ref {y : Addr} {k : Int} : x ≠ y → RefN nw k y → Oth nw x n (alikeB n k) (.ref y)
  | int (i : Int) (t : Tok) : Oth nw x n false (.int i t)
  | none : Oth nw x n false .none
  | str (a : Str) (t : Tok) : Oth nw x n false (.str a t)
  | bytes (a : Array UInt8) (t : Tok) : Oth nw x n false (.bytes a t)
section
variable {w : World} {A : Around} {s : Shared} {E : Value → Shared → Prop} {Q : Value → Shared → Prop}
theorem eq_db {n k : Int} {a b : Value} (ha : DbV n a) (hb : DbV k b) (h : Q (.bool (decide (dbO n = dbO k))) s) : wpAny (model PR w) A (compareOp .Eq a b) Q E s := by
  rcases ha with ⟨e1, t1, rfl⟩ | ⟨e1, rfl⟩ <;> rcases hb with ⟨e2, t2, rfl⟩ | ⟨e2, rfl⟩ <;> simp only [dbO, e1, e2, if_true, Bool.false_eq_true, if_false] at h
  · refine PySem.SeqAt.RcAt.str_str _ _ _ _ PR w E Q ?_
    have : (baseS n == baseS k) = decide (some (baseS n) = some (baseS k)) := by
      by_cases q : baseS n = baseS k <;> simp [q]
    rw [this]; exact h
  · exact PySem.SeqAt.RcAt.str_none _ _ PR w E Q (by simpa using h)
  · exact PySem.SeqAt.RcAt.none_str _ _ PR w E Q (by simpa using h)
  · exact PySem.SeqAt.RcAt.none_none PR w E Q (by simpa using h)
theorem eq_oidB {n k : Int} {t u : Tok} (h : Q (.bool (decide (oidB n = oidB k))) s) : wpAny (model PR w) A (compareOp .Eq (.bytes (oidB n) t) (.bytes (oidB k) u)) Q E s := by
  refine PySem.W.eq_bytes ?_
  have : ((oidB n).toList == (oidB k).toList) = decide (oidB n = oidB k) := by
    by_cases q : oidB n = oidB k
    · simp [q]
    · have : (oidB n).toList ≠ (oidB k).toList := fun e => q (Array.toList_inj.mp e)
      simp [q, this]
  rw [this]; exact h
end
section
variable {w : World} {p : Program} {loose : List Str} {mean : ExcName → Option Value} {mg mb : Str → Option Value} {dp un : Nat} {gd : Option (List Code)} {fr : Option (List Env)} {s : Shared} {Q E : Value → Shared → Prop} {n : Int} {t u : Tok} {x : Addr}
theorem cmp_K {h₀ base : Heap} {L : Addr} {m : Str → Option Value} {nw : List (Addr × Obj)} {A₀ : Around} {outer : List Env} {env : Env} {al : Bool} {o : Value}
    (B : Below A₀ base outer h₀) (F : Fr h₀ L s.heap m) (N : News h₀ L s.heap nw) (X : (hd.heap_1 w.params).In h₀) (T : Top p loose mean mg mb h₀) (XB : (hd.heap_1 w.params).In base) (TB : Top p loose mean mg mb base) (D : KtsDicts (outer.filterMap (·.frame)) h₀)
    (hfr : fr = some (env :: outer)) (hef : env.frame = some L) (hck : env.scope.kind = .function) (hdp : dp < 690) (R : RefN nw n x) (hoth : Oth nw x n al o)
    (hret : al = true → ∀ h' tk t, Fr h₀ L h' m → News h₀ L h' nw → Q (.int 0 t) { s with heap := h', toks := tk })
    (hraise : al = false → ∀ G h' tk e, Fr h₀ L G m → RaisedSN base G (env :: outer) e (.type "ValueError") nw h' → G.UpToSlots h' → E (.ref e) { s with heap := h', toks := tk }) :
    wpAny (model PR w) (tA dp un gd fr) (call (.ref 56) [.ref x, o]) Q E s := by
  k_with_none
  (k_with "ktr_room" => ((first | k_dflt (exact lt_0 (by assumption) rfl) | k_dflt (exact lt_1 (by assumption) rfl) | ((simp only [depth_under_make, depth_under_kw, depth_in1, depth_deeper, depth_caller, recursionLimit] at *); omega))))
  (k_with "k_room" => ((first | k_dflt (exact lt_0 (by assumption) rfl) | k_dflt (exact lt_1 (by assumption) rfl) | ((simp only [depth_under_make, depth_under_kw, depth_in1, depth_deeper, depth_caller, recursionLimit] at *); omega))))
  (k_with "k_units" => ((first | k_dflt (exact lt_0 (by assumption) rfl) | k_dflt (exact lt_1 (by assumption) rfl) | k_dflt (exact lt_2 (by assumption) rfl) | k_dflt (exact lt_3 (by assumption) rfl) | ((have qhcL9 := cLine_is); (simp only [units_in1, units_deeper, Around.mark_units, units_caller, cLine] at *); omega))))
  (k_with "execs cons" => (((first | (with_reducible show wpAny _ _ _ _ _ (Shared.mk _ _ _ (_ + 1) _)) | (with_reducible show wpAny _ _ _ _ _ (Shared.mk _ _ _ (Shared.toks (Shared.mk _ _ _ _ _)) _))); refine tok_gen (fun tk => ?_))))
  (k_with "k_enter" => ((refine' code_defN ?h76hk2 ?h76hk3 ?h76hk4 ?h76hk5 ?h76hk6 ?h76hk7 ?h76hk8 ?h76hk9 ?h76hkB ?_ ?h76hc2 ?h76hc3 ?h76hc4 ?h76hc5; (case h76hk2 => k_asm); (case h76hk3 => k_asm); (case h76hk4 => k_asm); (case h76hk5 => k_asm); (case h76hk6 => k_is); (case h76hk7 => k_is); (case h76hk8 => k_room); (case h76hk9 => first | exact BindsTo.of_eq rfl | exact binds_K (by k_in) rfl (by k_is) rfl rfl rfl | fail "k_enter: no rule for these arguments"); (case h76hc5 => decide); (case h76hkB => exact locs rfl); (case h76hc2 => exact rfl); (case h76hc3 => exact rfl); (case h76hc4 => exact rfl); k_whole; intro qg' qL' qh' qFG' qF' qN' qX' qT'; (try dsimp only); (try k_fold))))
  (k_with "k_mem" => (assumption))
  (k_with "getAttr ref" => ((k_here; (with_reducible show wpAny _ _ (getAttr (Value.ref _) ("oid" : Str) _) _ _ _); k_dflt (refine' ref_oid ?h78hk1 ?h78hk2 ?h78hk3 ?h78hk4 ?_; (case h78hk1 => k_asm); (case h78hk2 => k_asm); (case h78hk3 => k_asm); (case h78hk4 => assumption); k_whole); intro qt' qk')))
  (k_with "getAttr ref" => ((k_here; (with_reducible show wpAny _ _ (getAttr (Value.ref _) ("database_name" : Str) _) _ _ _); k_dflt (refine' ref_db ?h79hk1 ?h79hk2 ?h79hk3 ?h79hk4 ?_; (case h79hk1 => k_asm); (case h79hk2 => k_asm); (case h79hk3 => k_asm); (case h79hk4 => assumption); k_whole); intro qv' qk' qhv')))
  (k_with "getAttr ref" => ((k_here; (with_reducible show wpAny _ _ (getAttr (Value.ref _) ("weak" : Str) _) _ _ _); k_dflt (refine' ref_weak ?h80hk1 ?h80hk2 ?h80hk3 ?h80hk4 ?_; (case h80hk1 => k_asm); (case h80hk2 => k_asm); (case h80hk3 => k_asm); (case h80hk4 => assumption); k_whole); intro qk')))
  (k_with "compareOp Is" => ((k_here; k_dflt (refine' wpAny_is_other ?h81ha ?h81hb ?_; (case h81ha => rfl); (case h81hb => intro qe; cases qe); k_whole))))
  (k_with "compareOp Eq" => ((k_here; with_reducible refine eq_db (by assumption) (by assumption) ?_)))
  (k_with "compareOp Eq bytes bytes" => ((k_here; with_reducible refine eq_oidB ?_)))
  subst hfr
  refine wpAny_call ?_
  k_dflt (refine' code_defE ?k1 ?k2 ?k3 ?k4 ?k5 ?XB ?TB ?D ?T0 ?kA ?kE ?k6 ?k7 ?k8 ?k9 ?kB ?_ ?cK ?c2 ?c3 ?c4 ?c5; (case kA => exact rfl); (case kE => exact hef); (case k2 => k_asm); (case k1 => k_asm); (case XB => assumption); (case TB => assumption); (case D => assumption); (case T0 => first | assumption | exact KtsTurn.refl); (case k3 => k_asm); (case k4 => k_asm); (case k5 => k_asm); (case k6 => k_is); (case k7 => k_is); (case k8 => k_room); (case k9 => exact BindsTo.of_eq rfl); (case kB => exact locs rfl); (case cK => exact hck); (case c2 => exact rfl); (case c3 => exact rfl); (case c4 => exact rfl); (case c5 => decide); k_whole)
  intro g' L' h'' FG' F'' N'' B' X' T' D'
  clear F N B
  dsimp only
  have hrs := fun (q : al = false) h' tk e => hraise q g' h' tk e FG'
  clear hraise
  cases hoth with
  | same =>
    k_steps
    exact hret rfl _ _ _ (by assumption) (by assumption)
  | @ref y k hxy Ry =>
    have hxy' : @Ne Nat x y := hxy
    obtain ⟨dx, ex, kx, tx, hx1, hx2, _⟩ := id R
    obtain ⟨dy, ey, ky, ty, hy1, hy2, _⟩ := id Ry
    k_steps
    all_goals first
      | exact hret (alike_yes (by assumption) (by assumption) (by assumption) (by assumption)) _ _ _ (by assumption) (by assumption)
      | exact hrs (alike_no1 (by assumption)) _ _ _ (by assumption) (by assumption)
      | exact hrs (alike_no2 (by assumption)) _ _ _ (by assumption) (by assumption)
      | exact hrs (alike_no3 (by assumption)) _ _ _ (by assumption) (by assumption)
      | exact hrs (alike_no4 (by assumption)) _ _ _ (by assumption) (by assumption)
  | int i t => k_steps; exact hrs rfl _ _ _ (by assumption) (by assumption)
  | none => k_steps; exact hrs rfl _ _ _ (by assumption) (by assumption)
  | str a t => k_steps; exact hrs rfl _ _ _ (by assumption) (by assumption)
  | bytes a t => k_steps; exact hrs rfl _ _ _ (by assumption) (by assumption)
end
end Mine
namespace Mine
theorem oth_type {w : World} {s : Shared} {nw : List (Addr × Obj)} {h₀ : Heap} {L : Addr} {x : Addr} {n : Int} {al : Bool} {o : Value} (N : News h₀ L s.heap nw) (R : RefN nw n x) (h : Oth nw x n al o) :
    ∃ tb, Looks (model PR w) s.heap (typeOf o) tb ∧ notFirst (hd.heap_1 w.params) 109 tb = true := by
  k_with_none
  (k_with "ktr_room" => ((first | k_dflt (exact lt_0 (by assumption) rfl) | k_dflt (exact lt_1 (by assumption) rfl) | ((simp only [depth_under_make, depth_under_kw, depth_in1, depth_deeper, depth_caller, recursionLimit] at *); omega))))
  (k_with "k_room" => ((first | k_dflt (exact lt_0 (by assumption) rfl) | k_dflt (exact lt_1 (by assumption) rfl) | ((simp only [depth_under_make, depth_under_kw, depth_in1, depth_deeper, depth_caller, recursionLimit] at *); omega))))
  (k_with "k_units" => ((first | k_dflt (exact lt_0 (by assumption) rfl) | k_dflt (exact lt_1 (by assumption) rfl) | k_dflt (exact lt_2 (by assumption) rfl) | k_dflt (exact lt_3 (by assumption) rfl) | ((have qhcL9 := cLine_is); (simp only [units_in1, units_deeper, Around.mark_units, units_caller, cLine] at *); omega))))
  (k_with "execs cons" => (((first | (with_reducible show wpAny _ _ _ _ _ (Shared.mk _ _ _ (_ + 1) _)) | (with_reducible show wpAny _ _ _ _ _ (Shared.mk _ _ _ (Shared.toks (Shared.mk _ _ _ _ _)) _))); refine tok_gen (fun tk => ?_))))
  (k_with "k_enter" => ((refine' code_defN ?h88hk2 ?h88hk3 ?h88hk4 ?h88hk5 ?h88hk6 ?h88hk7 ?h88hk8 ?h88hk9 ?h88hkB ?_ ?h88hc2 ?h88hc3 ?h88hc4 ?h88hc5; (case h88hk2 => k_asm); (case h88hk3 => k_asm); (case h88hk4 => k_asm); (case h88hk5 => k_asm); (case h88hk6 => k_is); (case h88hk7 => k_is); (case h88hk8 => k_room); (case h88hk9 => first | exact BindsTo.of_eq rfl | exact binds_K (by k_in) rfl (by k_is) rfl rfl rfl | fail "k_enter: no rule for these arguments"); (case h88hc5 => decide); (case h88hkB => exact locs rfl); (case h88hc2 => exact rfl); (case h88hc3 => exact rfl); (case h88hc4 => exact rfl); k_whole; intro qg' qL' qh' qFG' qF' qN' qX' qT'; (try dsimp only); (try k_fold))))
  (k_with "k_mem" => (assumption))
  (k_with "k_get" => (assumption))
  cases h with
  | same =>
    obtain ⟨dx, ex, kx, tx, h1, h2, _⟩ := R
    exact ⟨_, InstAt.type (InstAt.of_news N h1 h2), by k_is⟩
  | ref hxy Ry =>
    obtain ⟨dx, ex, kx, tx, h1, h2, _⟩ := Ry
    exact ⟨_, InstAt.type (InstAt.of_news N h1 h2), by k_is⟩
  | int i t => exact ⟨.type "int", Looks.of_pure rfl, by k_is⟩
  | none => exact ⟨.type "NoneType", Looks.of_pure rfl, by k_is⟩
  | str i t => exact ⟨.type "str", Looks.of_pure rfl, by k_is⟩
  | bytes i t => exact ⟨.type "bytes", Looks.of_pure rfl, by k_is⟩
section
variable {w : World} {p : Program} {loose : List Str} {mean : ExcName → Option Value} {mg mb : Str → Option Value} {dp un : Nat} {gd : Option (List Code)} {fr : Option (List Env)} {s : Shared} {Q E : Value → Shared → Prop} {n : Int} {t u : Tok} {x : Addr}
theorem eq_K {h₀ base : Heap} {L : Addr} {m : Str → Option Value} {nw : List (Addr × Obj)} {A₀ : Around} {outer : List Env} {env : Env} {al : Bool} {o : Value}
    (B : Below A₀ base outer h₀) (F : Fr h₀ L s.heap m) (N : News h₀ L s.heap nw) (X : (hd.heap_1 w.params).In h₀) (T : Top p loose mean mg mb h₀) (XB : (hd.heap_1 w.params).In base) (TB : Top p loose mean mg mb base) (D : KtsDicts (outer.filterMap (·.frame)) h₀)
    (hfr : fr = some (env :: outer)) (hef : env.frame = some L) (hck : env.scope.kind = .function) (hdp : dp < 680) (hun : un < 180) (R : RefN nw n x) (hoth : Oth nw x n al o)
    (hret : al = true → ∀ h' tk, Fr h₀ L h' m → News h₀ L h' nw → Q (.bool true) { s with heap := h', toks := tk })
    (hraise : al = false → ∀ G h' tk e, Fr h₀ L G m → RaisedSN base G (env :: outer) e (.type "ValueError") nw h' → G.UpToSlots h' → E (.ref e) { s with heap := h', toks := tk }) :
    wpAny (model PR w) (tA dp un gd fr) (compareOp .Eq (.ref x) o) Q E s := by
  k_with_none
  (k_with "ktr_room" => ((first | k_dflt (exact lt_0 (by assumption) rfl) | k_dflt (exact lt_1 (by assumption) rfl) | ((simp only [depth_under_make, depth_under_kw, depth_in1, depth_deeper, depth_caller, recursionLimit] at *); omega))))
  (k_with "k_room" => ((first | k_dflt (exact lt_0 (by assumption) rfl) | k_dflt (exact lt_1 (by assumption) rfl) | ((simp only [depth_under_make, depth_under_kw, depth_in1, depth_deeper, depth_caller, recursionLimit] at *); omega))))
  (k_with "k_units" => ((first | k_dflt (exact lt_0 (by assumption) rfl) | k_dflt (exact lt_1 (by assumption) rfl) | k_dflt (exact lt_2 (by assumption) rfl) | k_dflt (exact lt_3 (by assumption) rfl) | ((have qhcL9 := cLine_is); (simp only [units_in1, units_deeper, Around.mark_units, units_caller, cLine] at *); omega))))
  (k_with "execs cons" => (((first | (with_reducible show wpAny _ _ _ _ _ (Shared.mk _ _ _ (_ + 1) _)) | (with_reducible show wpAny _ _ _ _ _ (Shared.mk _ _ _ (Shared.toks (Shared.mk _ _ _ _ _)) _))); refine tok_gen (fun tk => ?_))))
  (k_with "k_enter" => ((refine' code_defN ?h88hk2 ?h88hk3 ?h88hk4 ?h88hk5 ?h88hk6 ?h88hk7 ?h88hk8 ?h88hk9 ?h88hkB ?_ ?h88hc2 ?h88hc3 ?h88hc4 ?h88hc5; (case h88hk2 => k_asm); (case h88hk3 => k_asm); (case h88hk4 => k_asm); (case h88hk5 => k_asm); (case h88hk6 => k_is); (case h88hk7 => k_is); (case h88hk8 => k_room); (case h88hk9 => first | exact BindsTo.of_eq rfl | exact binds_K (by k_in) rfl (by k_is) rfl rfl rfl | fail "k_enter: no rule for these arguments"); (case h88hc5 => decide); (case h88hkB => exact locs rfl); (case h88hc2 => exact rfl); (case h88hc3 => exact rfl); (case h88hc4 => exact rfl); k_whole; intro qg' qL' qh' qFG' qF' qN' qX' qT'; (try dsimp only); (try k_fold))))
  (k_with "k_mem" => (assumption))
  (k_with "k_get" => (assumption))
  (k_with "call ref" => ((k_here; (with_reducible show wpAny _ _ (call (Value.ref 56) [Value.ref _, _]) _ _ _); k_dflt (refine' cmp_K ?h91hB ?h91hF ?h91hN ?h91hX ?h91hT ?h91hXB ?h91hTB ?h91hD ?h91hhfr ?h91hhef ?h91hhck ?h91hhdp ?h91hR ?h91hO ?h91hc1 ?h91hc2; (case h91hB => assumption); (case h91hF => k_asm); (case h91hN => k_asm); (case h91hX => k_asm); (case h91hT => k_asm); (case h91hXB => assumption); (case h91hTB => assumption); (case h91hD => assumption); (case h91hhfr => exact rfl); (case h91hhef => exact rfl); (case h91hhck => exact rfl); (case h91hhdp => (first | exact lt_0 (by assumption) rfl | exact lt_1 (by assumption) rfl | exact lt_2 (by assumption) rfl | exact lt_3 (by assumption) rfl | ((try dsimp only); omega))); (case h91hR => assumption); (case h91hO => assumption)); (case' h91hc1 => (intro qq' qh' qtk' qt' qF' qN'; (try k_sweep))); (case' h91hc2 => (intro qq' qG' qh' qtk' qe' qFG' qS' qU'; (try k_sweep))))))
  subst hfr
  obtain ⟨dx, ex, kx, tx, hx1, hx2, hx3⟩ := id R
  have hxc := hx3.cmp
  obtain ⟨tb, hb1, hb2⟩ := oth_type N R hoth
  refine cmp_ofEq ?_
  k_dflt (refine' PySem.W.cmp_K ?k1 ?k2 ?k3 ?k4 ?k5 ?k6 ?k7 ?k8 ?_; (case k1 => k_units); (case k2 => k_asm); (case k3 => k_asm); (case k4 => k_inst); (case k5 => exact hb1); (case k6 => exact hb2); (case k7 => k_is); (case k8 => k_is); k_whole)
  refine wpAny_call ?_
  k_dflt (refine' code_defE ?k1 ?k2 ?k3 ?k4 ?k5 ?XB ?TB ?D ?T0 ?kA ?kE ?k6 ?k7 ?k8 ?k9 ?kB ?_ ?cK ?c2 ?c3 ?c4 ?c5; (case kA => exact rfl); (case kE => exact hef); (case k2 => k_asm); (case k1 => k_asm); (case XB => assumption); (case TB => assumption); (case D => assumption); (case T0 => first | assumption | exact KtsTurn.refl); (case k3 => k_asm); (case k4 => k_asm); (case k5 => k_asm); (case k6 => k_is); (case k7 => k_is); (case k8 => k_room); (case k9 => exact BindsTo.of_eq rfl); (case kB => exact locs rfl); (case cK => exact hck); (case c2 => exact rfl); (case c3 => exact rfl); (case c4 => exact rfl); (case c5 => decide); k_whole)
  intro g' L' h'' FG' F'' N'' B' X' T' D'
  clear F N B
  dsimp only
  have hrs := fun (q : al = false) h' tk e => hraise q g' h' tk e FG'
  clear hraise
  k_steps
  all_goals first
    | exact hret (by assumption) _ _ (by assumption) (by assumption)
    | exact hrs (by assumption) _ _ _ (by assumption) (by assumption)
theorem ne_K {h₀ base : Heap} {L : Addr} {m : Str → Option Value} {nw : List (Addr × Obj)} {A₀ : Around} {outer : List Env} {env : Env} {al : Bool} {o : Value}
    (B : Below A₀ base outer h₀) (F : Fr h₀ L s.heap m) (N : News h₀ L s.heap nw) (X : (hd.heap_1 w.params).In h₀) (T : Top p loose mean mg mb h₀) (XB : (hd.heap_1 w.params).In base) (TB : Top p loose mean mg mb base) (D : KtsDicts (outer.filterMap (·.frame)) h₀)
    (hfr : fr = some (env :: outer)) (hef : env.frame = some L) (hck : env.scope.kind = .function) (hdp : dp < 680) (hun : un < 180) (R : RefN nw n x) (hoth : Oth nw x n al o)
    (hret : al = true → ∀ h' tk, Fr h₀ L h' m → News h₀ L h' nw → Q (.bool false) { s with heap := h', toks := tk })
    (hraise : al = false → ∀ G h' tk e, Fr h₀ L G m → RaisedSN base G (env :: outer) e (.type "ValueError") nw h' → G.UpToSlots h' → E (.ref e) { s with heap := h', toks := tk }) :
    wpAny (model PR w) (tA dp un gd fr) (compareOp .NotEq (.ref x) o) Q E s := by
  k_with_none
  (k_with "ktr_room" => ((first | k_dflt (exact lt_0 (by assumption) rfl) | k_dflt (exact lt_1 (by assumption) rfl) | ((simp only [depth_under_make, depth_under_kw, depth_in1, depth_deeper, depth_caller, recursionLimit] at *); omega))))
  (k_with "k_room" => ((first | k_dflt (exact lt_0 (by assumption) rfl) | k_dflt (exact lt_1 (by assumption) rfl) | ((simp only [depth_under_make, depth_under_kw, depth_in1, depth_deeper, depth_caller, recursionLimit] at *); omega))))
  (k_with "k_units" => ((first | k_dflt (exact lt_0 (by assumption) rfl) | k_dflt (exact lt_1 (by assumption) rfl) | k_dflt (exact lt_2 (by assumption) rfl) | k_dflt (exact lt_3 (by assumption) rfl) | ((have qhcL9 := cLine_is); (simp only [units_in1, units_deeper, Around.mark_units, units_caller, cLine] at *); omega))))
  (k_with "execs cons" => (((first | (with_reducible show wpAny _ _ _ _ _ (Shared.mk _ _ _ (_ + 1) _)) | (with_reducible show wpAny _ _ _ _ _ (Shared.mk _ _ _ (Shared.toks (Shared.mk _ _ _ _ _)) _))); refine tok_gen (fun tk => ?_))))
  (k_with "k_enter" => ((refine' code_defN ?h88hk2 ?h88hk3 ?h88hk4 ?h88hk5 ?h88hk6 ?h88hk7 ?h88hk8 ?h88hk9 ?h88hkB ?_ ?h88hc2 ?h88hc3 ?h88hc4 ?h88hc5; (case h88hk2 => k_asm); (case h88hk3 => k_asm); (case h88hk4 => k_asm); (case h88hk5 => k_asm); (case h88hk6 => k_is); (case h88hk7 => k_is); (case h88hk8 => k_room); (case h88hk9 => first | exact BindsTo.of_eq rfl | exact binds_K (by k_in) rfl (by k_is) rfl rfl rfl | fail "k_enter: no rule for these arguments"); (case h88hc5 => decide); (case h88hkB => exact locs rfl); (case h88hc2 => exact rfl); (case h88hc3 => exact rfl); (case h88hc4 => exact rfl); k_whole; intro qg' qL' qh' qFG' qF' qN' qX' qT'; (try dsimp only); (try k_fold))))
  (k_with "k_mem" => (assumption))
  (k_with "k_get" => (assumption))
  (k_with "call ref" => ((k_here; (with_reducible show wpAny _ _ (call (Value.ref 56) [Value.ref _, _]) _ _ _); k_dflt (refine' cmp_K ?h91hB ?h91hF ?h91hN ?h91hX ?h91hT ?h91hXB ?h91hTB ?h91hD ?h91hhfr ?h91hhef ?h91hhck ?h91hhdp ?h91hR ?h91hO ?h91hc1 ?h91hc2; (case h91hB => assumption); (case h91hF => k_asm); (case h91hN => k_asm); (case h91hX => k_asm); (case h91hT => k_asm); (case h91hXB => assumption); (case h91hTB => assumption); (case h91hD => assumption); (case h91hhfr => exact rfl); (case h91hhef => exact rfl); (case h91hhck => exact rfl); (case h91hhdp => (first | exact lt_0 (by assumption) rfl | exact lt_1 (by assumption) rfl | exact lt_2 (by assumption) rfl | exact lt_3 (by assumption) rfl | ((try dsimp only); omega))); (case h91hR => assumption); (case h91hO => assumption)); (case' h91hc1 => (intro qq' qh' qtk' qt' qF' qN'; (try k_sweep))); (case' h91hc2 => (intro qq' qG' qh' qtk' qe' qFG' qS' qU'; (try k_sweep))))))
  subst hfr
  obtain ⟨dx, ex, kx, tx, hx1, hx2, hx3⟩ := id R
  have hxc := hx3.cmp
  obtain ⟨tb, hb1, hb2⟩ := oth_type N R hoth
  refine cmp_ofNotEq ?_
  k_dflt (refine' PySem.W.cmp_K ?k1 ?k2 ?k3 ?k4 ?k5 ?k6 ?k7 ?k8 ?_; (case k1 => k_units); (case k2 => k_asm); (case k3 => k_asm); (case k4 => k_inst); (case k5 => exact hb1); (case k6 => exact hb2); (case k7 => k_is); (case k8 => k_is); k_whole)
  refine wpAny_call ?_
  k_dflt (refine' code_defE ?k1 ?k2 ?k3 ?k4 ?k5 ?XB ?TB ?D ?T0 ?kA ?kE ?k6 ?k7 ?k8 ?k9 ?kB ?_ ?cK ?c2 ?c3 ?c4 ?c5; (case kA => exact rfl); (case kE => exact hef); (case k2 => k_asm); (case k1 => k_asm); (case XB => assumption); (case TB => assumption); (case D => assumption); (case T0 => first | assumption | exact KtsTurn.refl); (case k3 => k_asm); (case k4 => k_asm); (case k5 => k_asm); (case k6 => k_is); (case k7 => k_is); (case k8 => k_room); (case k9 => exact BindsTo.of_eq rfl); (case kB => exact locs rfl); (case cK => exact hck); (case c2 => exact rfl); (case c3 => exact rfl); (case c4 => exact rfl); (case c5 => decide); k_whole)
  intro g' L' h'' FG' F'' N'' B' X' T' D'
  clear F N B
  dsimp only
  have hrs := fun (q : al = false) h' tk e => hraise q g' h' tk e FG'
  clear hraise
  k_steps
  all_goals first
    | exact hret (by assumption) _ _ (by assumption) (by assumption)
    | exact hrs (by assumption) _ _ _ (by assumption) (by assumption)
theorem lt_K {h₀ base : Heap} {L : Addr} {m : Str → Option Value} {nw : List (Addr × Obj)} {A₀ : Around} {outer : List Env} {env : Env} {al : Bool} {o : Value}
    (B : Below A₀ base outer h₀) (F : Fr h₀ L s.heap m) (N : News h₀ L s.heap nw) (X : (hd.heap_1 w.params).In h₀) (T : Top p loose mean mg mb h₀) (XB : (hd.heap_1 w.params).In base) (TB : Top p loose mean mg mb base) (D : KtsDicts (outer.filterMap (·.frame)) h₀)
    (hfr : fr = some (env :: outer)) (hef : env.frame = some L) (hck : env.scope.kind = .function) (hdp : dp < 680) (hun : un < 180) (R : RefN nw n x) (hoth : Oth nw x n al o)
    (hret : al = true → ∀ h' tk, Fr h₀ L h' m → News h₀ L h' nw → Q (.bool false) { s with heap := h', toks := tk })
    (hraise : al = false → ∀ G h' tk e, Fr h₀ L G m → RaisedSN base G (env :: outer) e (.type "ValueError") nw h' → G.UpToSlots h' → E (.ref e) { s with heap := h', toks := tk }) :
    wpAny (model PR w) (tA dp un gd fr) (compareOp .Lt (.ref x) o) Q E s := by
  k_with_none
  (k_with "ktr_room" => ((first | k_dflt (exact lt_0 (by assumption) rfl) | k_dflt (exact lt_1 (by assumption) rfl) | ((simp only [depth_under_make, depth_under_kw, depth_in1, depth_deeper, depth_caller, recursionLimit] at *); omega))))
  (k_with "k_room" => ((first | k_dflt (exact lt_0 (by assumption) rfl) | k_dflt (exact lt_1 (by assumption) rfl) | ((simp only [depth_under_make, depth_under_kw, depth_in1, depth_deeper, depth_caller, recursionLimit] at *); omega))))
  (k_with "k_units" => ((first | k_dflt (exact lt_0 (by assumption) rfl) | k_dflt (exact lt_1 (by assumption) rfl) | k_dflt (exact lt_2 (by assumption) rfl) | k_dflt (exact lt_3 (by assumption) rfl) | ((have qhcL9 := cLine_is); (simp only [units_in1, units_deeper, Around.mark_units, units_caller, cLine] at *); omega))))
  (k_with "execs cons" => (((first | (with_reducible show wpAny _ _ _ _ _ (Shared.mk _ _ _ (_ + 1) _)) | (with_reducible show wpAny _ _ _ _ _ (Shared.mk _ _ _ (Shared.toks (Shared.mk _ _ _ _ _)) _))); refine tok_gen (fun tk => ?_))))
  (k_with "k_enter" => ((refine' code_defN ?h88hk2 ?h88hk3 ?h88hk4 ?h88hk5 ?h88hk6 ?h88hk7 ?h88hk8 ?h88hk9 ?h88hkB ?_ ?h88hc2 ?h88hc3 ?h88hc4 ?h88hc5; (case h88hk2 => k_asm); (case h88hk3 => k_asm); (case h88hk4 => k_asm); (case h88hk5 => k_asm); (case h88hk6 => k_is); (case h88hk7 => k_is); (case h88hk8 => k_room); (case h88hk9 => first | exact BindsTo.of_eq rfl | exact binds_K (by k_in) rfl (by k_is) rfl rfl rfl | fail "k_enter: no rule for these arguments"); (case h88hc5 => decide); (case h88hkB => exact locs rfl); (case h88hc2 => exact rfl); (case h88hc3 => exact rfl); (case h88hc4 => exact rfl); k_whole; intro qg' qL' qh' qFG' qF' qN' qX' qT'; (try dsimp only); (try k_fold))))
  (k_with "k_mem" => (assumption))
  (k_with "k_get" => (assumption))
  (k_with "call ref" => ((k_here; (with_reducible show wpAny _ _ (call (Value.ref 56) [Value.ref _, _]) _ _ _); k_dflt (refine' cmp_K ?h91hB ?h91hF ?h91hN ?h91hX ?h91hT ?h91hXB ?h91hTB ?h91hD ?h91hhfr ?h91hhef ?h91hhck ?h91hhdp ?h91hR ?h91hO ?h91hc1 ?h91hc2; (case h91hB => assumption); (case h91hF => k_asm); (case h91hN => k_asm); (case h91hX => k_asm); (case h91hT => k_asm); (case h91hXB => assumption); (case h91hTB => assumption); (case h91hD => assumption); (case h91hhfr => exact rfl); (case h91hhef => exact rfl); (case h91hhck => exact rfl); (case h91hhdp => (first | exact lt_0 (by assumption) rfl | exact lt_1 (by assumption) rfl | exact lt_2 (by assumption) rfl | exact lt_3 (by assumption) rfl | ((try dsimp only); omega))); (case h91hR => assumption); (case h91hO => assumption)); (case' h91hc1 => (intro qq' qh' qtk' qt' qF' qN'; (try k_sweep))); (case' h91hc2 => (intro qq' qG' qh' qtk' qe' qFG' qS' qU'; (try k_sweep))))))
  subst hfr
  obtain ⟨dx, ex, kx, tx, hx1, hx2, hx3⟩ := id R
  have hxc := hx3.cmp
  obtain ⟨tb, hb1, hb2⟩ := oth_type N R hoth
  refine cmp_ofLt ?_
  k_dflt (refine' PySem.W.cmp_K ?k1 ?k2 ?k3 ?k4 ?k5 ?k6 ?k7 ?k8 ?_; (case k1 => k_units); (case k2 => k_asm); (case k3 => k_asm); (case k4 => k_inst); (case k5 => exact hb1); (case k6 => exact hb2); (case k7 => k_is); (case k8 => k_is); k_whole)
  refine wpAny_call ?_
  k_dflt (refine' code_defE ?k1 ?k2 ?k3 ?k4 ?k5 ?XB ?TB ?D ?T0 ?kA ?kE ?k6 ?k7 ?k8 ?k9 ?kB ?_ ?cK ?c2 ?c3 ?c4 ?c5; (case kA => exact rfl); (case kE => exact hef); (case k2 => k_asm); (case k1 => k_asm); (case XB => assumption); (case TB => assumption); (case D => assumption); (case T0 => first | assumption | exact KtsTurn.refl); (case k3 => k_asm); (case k4 => k_asm); (case k5 => k_asm); (case k6 => k_is); (case k7 => k_is); (case k8 => k_room); (case k9 => exact BindsTo.of_eq rfl); (case kB => exact locs rfl); (case cK => exact hck); (case c2 => exact rfl); (case c3 => exact rfl); (case c4 => exact rfl); (case c5 => decide); k_whole)
  intro g' L' h'' FG' F'' N'' B' X' T' D'
  clear F N B
  dsimp only
  have hrs := fun (q : al = false) h' tk e => hraise q g' h' tk e FG'
  clear hraise
  k_steps
  all_goals first
    | exact hret (by assumption) _ _ (by assumption) (by assumption)
    | exact hrs (by assumption) _ _ _ (by assumption) (by assumption)
theorem gt_K {h₀ base : Heap} {L : Addr} {m : Str → Option Value} {nw : List (Addr × Obj)} {A₀ : Around} {outer : List Env} {env : Env} {al : Bool} {o : Value}
    (B : Below A₀ base outer h₀) (F : Fr h₀ L s.heap m) (N : News h₀ L s.heap nw) (X : (hd.heap_1 w.params).In h₀) (T : Top p loose mean mg mb h₀) (XB : (hd.heap_1 w.params).In base) (TB : Top p loose mean mg mb base) (D : KtsDicts (outer.filterMap (·.frame)) h₀)
    (hfr : fr = some (env :: outer)) (hef : env.frame = some L) (hck : env.scope.kind = .function) (hdp : dp < 680) (hun : un < 180) (R : RefN nw n x) (hoth : Oth nw x n al o)
    (hret : al = true → ∀ h' tk, Fr h₀ L h' m → News h₀ L h' nw → Q (.bool false) { s with heap := h', toks := tk })
    (hraise : al = false → ∀ G h' tk e, Fr h₀ L G m → RaisedSN base G (env :: outer) e (.type "ValueError") nw h' → G.UpToSlots h' → E (.ref e) { s with heap := h', toks := tk }) :
    wpAny (model PR w) (tA dp un gd fr) (compareOp .Gt (.ref x) o) Q E s := by
  k_with_none
  (k_with "ktr_room" => ((first | k_dflt (exact lt_0 (by assumption) rfl) | k_dflt (exact lt_1 (by assumption) rfl) | ((simp only [depth_under_make, depth_under_kw, depth_in1, depth_deeper, depth_caller, recursionLimit] at *); omega))))
  (k_with "k_room" => ((first | k_dflt (exact lt_0 (by assumption) rfl) | k_dflt (exact lt_1 (by assumption) rfl) | ((simp only [depth_under_make, depth_under_kw, depth_in1, depth_deeper, depth_caller, recursionLimit] at *); omega))))
  (k_with "k_units" => ((first | k_dflt (exact lt_0 (by assumption) rfl) | k_dflt (exact lt_1 (by assumption) rfl) | k_dflt (exact lt_2 (by assumption) rfl) | k_dflt (exact lt_3 (by assumption) rfl) | ((have qhcL9 := cLine_is); (simp only [units_in1, units_deeper, Around.mark_units, units_caller, cLine] at *); omega))))
  (k_with "execs cons" => (((first | (with_reducible show wpAny _ _ _ _ _ (Shared.mk _ _ _ (_ + 1) _)) | (with_reducible show wpAny _ _ _ _ _ (Shared.mk _ _ _ (Shared.toks (Shared.mk _ _ _ _ _)) _))); refine tok_gen (fun tk => ?_))))
  (k_with "k_enter" => ((refine' code_defN ?h88hk2 ?h88hk3 ?h88hk4 ?h88hk5 ?h88hk6 ?h88hk7 ?h88hk8 ?h88hk9 ?h88hkB ?_ ?h88hc2 ?h88hc3 ?h88hc4 ?h88hc5; (case h88hk2 => k_asm); (case h88hk3 => k_asm); (case h88hk4 => k_asm); (case h88hk5 => k_asm); (case h88hk6 => k_is); (case h88hk7 => k_is); (case h88hk8 => k_room); (case h88hk9 => first | exact BindsTo.of_eq rfl | exact binds_K (by k_in) rfl (by k_is) rfl rfl rfl | fail "k_enter: no rule for these arguments"); (case h88hc5 => decide); (case h88hkB => exact locs rfl); (case h88hc2 => exact rfl); (case h88hc3 => exact rfl); (case h88hc4 => exact rfl); k_whole; intro qg' qL' qh' qFG' qF' qN' qX' qT'; (try dsimp only); (try k_fold))))
  (k_with "k_mem" => (assumption))
  (k_with "k_get" => (assumption))
  (k_with "call ref" => ((k_here; (with_reducible show wpAny _ _ (call (Value.ref 56) [Value.ref _, _]) _ _ _); k_dflt (refine' cmp_K ?h91hB ?h91hF ?h91hN ?h91hX ?h91hT ?h91hXB ?h91hTB ?h91hD ?h91hhfr ?h91hhef ?h91hhck ?h91hhdp ?h91hR ?h91hO ?h91hc1 ?h91hc2; (case h91hB => assumption); (case h91hF => k_asm); (case h91hN => k_asm); (case h91hX => k_asm); (case h91hT => k_asm); (case h91hXB => assumption); (case h91hTB => assumption); (case h91hD => assumption); (case h91hhfr => exact rfl); (case h91hhef => exact rfl); (case h91hhck => exact rfl); (case h91hhdp => (first | exact lt_0 (by assumption) rfl | exact lt_1 (by assumption) rfl | exact lt_2 (by assumption) rfl | exact lt_3 (by assumption) rfl | ((try dsimp only); omega))); (case h91hR => assumption); (case h91hO => assumption)); (case' h91hc1 => (intro qq' qh' qtk' qt' qF' qN'; (try k_sweep))); (case' h91hc2 => (intro qq' qG' qh' qtk' qe' qFG' qS' qU'; (try k_sweep))))))
  subst hfr
  obtain ⟨dx, ex, kx, tx, hx1, hx2, hx3⟩ := id R
  have hxc := hx3.cmp
  obtain ⟨tb, hb1, hb2⟩ := oth_type N R hoth
  refine cmp_ofGt ?_
  k_dflt (refine' PySem.W.cmp_K ?k1 ?k2 ?k3 ?k4 ?k5 ?k6 ?k7 ?k8 ?_; (case k1 => k_units); (case k2 => k_asm); (case k3 => k_asm); (case k4 => k_inst); (case k5 => exact hb1); (case k6 => exact hb2); (case k7 => k_is); (case k8 => k_is); k_whole)
  refine wpAny_call ?_
  k_dflt (refine' code_defE ?k1 ?k2 ?k3 ?k4 ?k5 ?XB ?TB ?D ?T0 ?kA ?kE ?k6 ?k7 ?k8 ?k9 ?kB ?_ ?cK ?c2 ?c3 ?c4 ?c5; (case kA => exact rfl); (case kE => exact hef); (case k2 => k_asm); (case k1 => k_asm); (case XB => assumption); (case TB => assumption); (case D => assumption); (case T0 => first | assumption | exact KtsTurn.refl); (case k3 => k_asm); (case k4 => k_asm); (case k5 => k_asm); (case k6 => k_is); (case k7 => k_is); (case k8 => k_room); (case k9 => exact BindsTo.of_eq rfl); (case kB => exact locs rfl); (case cK => exact hck); (case c2 => exact rfl); (case c3 => exact rfl); (case c4 => exact rfl); (case c5 => decide); k_whole)
  intro g' L' h'' FG' F'' N'' B' X' T' D'
  clear F N B
  dsimp only
  have hrs := fun (q : al = false) h' tk e => hraise q g' h' tk e FG'
  clear hraise
  k_steps
  all_goals first
    | exact hret (by assumption) _ _ (by assumption) (by assumption)
    | exact hrs (by assumption) _ _ _ (by assumption) (by assumption)
theorem le_K {h₀ base : Heap} {L : Addr} {m : Str → Option Value} {nw : List (Addr × Obj)} {A₀ : Around} {outer : List Env} {env : Env} {al : Bool} {o : Value}
    (B : Below A₀ base outer h₀) (F : Fr h₀ L s.heap m) (N : News h₀ L s.heap nw) (X : (hd.heap_1 w.params).In h₀) (T : Top p loose mean mg mb h₀) (XB : (hd.heap_1 w.params).In base) (TB : Top p loose mean mg mb base) (D : KtsDicts (outer.filterMap (·.frame)) h₀)
    (hfr : fr = some (env :: outer)) (hef : env.frame = some L) (hck : env.scope.kind = .function) (hdp : dp < 680) (hun : un < 180) (R : RefN nw n x) (hoth : Oth nw x n al o)
    (hret : al = true → ∀ h' tk, Fr h₀ L h' m → News h₀ L h' nw → Q (.bool true) { s with heap := h', toks := tk })
    (hraise : al = false → ∀ G h' tk e, Fr h₀ L G m → RaisedSN base G (env :: outer) e (.type "ValueError") nw h' → G.UpToSlots h' → E (.ref e) { s with heap := h', toks := tk }) :
    wpAny (model PR w) (tA dp un gd fr) (compareOp .LtE (.ref x) o) Q E s := by
  k_with_none
  (k_with "ktr_room" => ((first | k_dflt (exact lt_0 (by assumption) rfl) | k_dflt (exact lt_1 (by assumption) rfl) | ((simp only [depth_under_make, depth_under_kw, depth_in1, depth_deeper, depth_caller, recursionLimit] at *); omega))))
  (k_with "k_room" => ((first | k_dflt (exact lt_0 (by assumption) rfl) | k_dflt (exact lt_1 (by assumption) rfl) | ((simp only [depth_under_make, depth_under_kw, depth_in1, depth_deeper, depth_caller, recursionLimit] at *); omega))))
  (k_with "k_units" => ((first | k_dflt (exact lt_0 (by assumption) rfl) | k_dflt (exact lt_1 (by assumption) rfl) | k_dflt (exact lt_2 (by assumption) rfl) | k_dflt (exact lt_3 (by assumption) rfl) | ((have qhcL9 := cLine_is); (simp only [units_in1, units_deeper, Around.mark_units, units_caller, cLine] at *); omega))))
  (k_with "execs cons" => (((first | (with_reducible show wpAny _ _ _ _ _ (Shared.mk _ _ _ (_ + 1) _)) | (with_reducible show wpAny _ _ _ _ _ (Shared.mk _ _ _ (Shared.toks (Shared.mk _ _ _ _ _)) _))); refine tok_gen (fun tk => ?_))))
  (k_with "k_enter" => ((refine' code_defN ?h88hk2 ?h88hk3 ?h88hk4 ?h88hk5 ?h88hk6 ?h88hk7 ?h88hk8 ?h88hk9 ?h88hkB ?_ ?h88hc2 ?h88hc3 ?h88hc4 ?h88hc5; (case h88hk2 => k_asm); (case h88hk3 => k_asm); (case h88hk4 => k_asm); (case h88hk5 => k_asm); (case h88hk6 => k_is); (case h88hk7 => k_is); (case h88hk8 => k_room); (case h88hk9 => first | exact BindsTo.of_eq rfl | exact binds_K (by k_in) rfl (by k_is) rfl rfl rfl | fail "k_enter: no rule for these arguments"); (case h88hc5 => decide); (case h88hkB => exact locs rfl); (case h88hc2 => exact rfl); (case h88hc3 => exact rfl); (case h88hc4 => exact rfl); k_whole; intro qg' qL' qh' qFG' qF' qN' qX' qT'; (try dsimp only); (try k_fold))))
  (k_with "k_mem" => (assumption))
  (k_with "k_get" => (assumption))
  (k_with "call ref" => ((k_here; (with_reducible show wpAny _ _ (call (Value.ref 56) [Value.ref _, _]) _ _ _); k_dflt (refine' cmp_K ?h91hB ?h91hF ?h91hN ?h91hX ?h91hT ?h91hXB ?h91hTB ?h91hD ?h91hhfr ?h91hhef ?h91hhck ?h91hhdp ?h91hR ?h91hO ?h91hc1 ?h91hc2; (case h91hB => assumption); (case h91hF => k_asm); (case h91hN => k_asm); (case h91hX => k_asm); (case h91hT => k_asm); (case h91hXB => assumption); (case h91hTB => assumption); (case h91hD => assumption); (case h91hhfr => exact rfl); (case h91hhef => exact rfl); (case h91hhck => exact rfl); (case h91hhdp => (first | exact lt_0 (by assumption) rfl | exact lt_1 (by assumption) rfl | exact lt_2 (by assumption) rfl | exact lt_3 (by assumption) rfl | ((try dsimp only); omega))); (case h91hR => assumption); (case h91hO => assumption)); (case' h91hc1 => (intro qq' qh' qtk' qt' qF' qN'; (try k_sweep))); (case' h91hc2 => (intro qq' qG' qh' qtk' qe' qFG' qS' qU'; (try k_sweep))))))
  subst hfr
  obtain ⟨dx, ex, kx, tx, hx1, hx2, hx3⟩ := id R
  have hxc := hx3.cmp
  obtain ⟨tb, hb1, hb2⟩ := oth_type N R hoth
  refine cmp_ofLtE ?_
  k_dflt (refine' PySem.W.cmp_K ?k1 ?k2 ?k3 ?k4 ?k5 ?k6 ?k7 ?k8 ?_; (case k1 => k_units); (case k2 => k_asm); (case k3 => k_asm); (case k4 => k_inst); (case k5 => exact hb1); (case k6 => exact hb2); (case k7 => k_is); (case k8 => k_is); k_whole)
  refine wpAny_call ?_
  k_dflt (refine' code_defE ?k1 ?k2 ?k3 ?k4 ?k5 ?XB ?TB ?D ?T0 ?kA ?kE ?k6 ?k7 ?k8 ?k9 ?kB ?_ ?cK ?c2 ?c3 ?c4 ?c5; (case kA => exact rfl); (case kE => exact hef); (case k2 => k_asm); (case k1 => k_asm); (case XB => assumption); (case TB => assumption); (case D => assumption); (case T0 => first | assumption | exact KtsTurn.refl); (case k3 => k_asm); (case k4 => k_asm); (case k5 => k_asm); (case k6 => k_is); (case k7 => k_is); (case k8 => k_room); (case k9 => exact BindsTo.of_eq rfl); (case kB => exact locs rfl); (case cK => exact hck); (case c2 => exact rfl); (case c3 => exact rfl); (case c4 => exact rfl); (case c5 => decide); k_whole)
  intro g' L' h'' FG' F'' N'' B' X' T' D'
  clear F N B
  dsimp only
  have hrs := fun (q : al = false) h' tk e => hraise q g' h' tk e FG'
  clear hraise
  k_steps
  all_goals first
    | exact hret (by assumption) _ _ (by assumption) (by assumption)
    | exact hrs (by assumption) _ _ _ (by assumption) (by assumption)
theorem ge_K {h₀ base : Heap} {L : Addr} {m : Str → Option Value} {nw : List (Addr × Obj)} {A₀ : Around} {outer : List Env} {env : Env} {al : Bool} {o : Value}
    (B : Below A₀ base outer h₀) (F : Fr h₀ L s.heap m) (N : News h₀ L s.heap nw) (X : (hd.heap_1 w.params).In h₀) (T : Top p loose mean mg mb h₀) (XB : (hd.heap_1 w.params).In base) (TB : Top p loose mean mg mb base) (D : KtsDicts (outer.filterMap (·.frame)) h₀)
    (hfr : fr = some (env :: outer)) (hef : env.frame = some L) (hck : env.scope.kind = .function) (hdp : dp < 680) (hun : un < 180) (R : RefN nw n x) (hoth : Oth nw x n al o)
    (hret : al = true → ∀ h' tk, Fr h₀ L h' m → News h₀ L h' nw → Q (.bool true) { s with heap := h', toks := tk })
    (hraise : al = false → ∀ G h' tk e, Fr h₀ L G m → RaisedSN base G (env :: outer) e (.type "ValueError") nw h' → G.UpToSlots h' → E (.ref e) { s with heap := h', toks := tk }) :
    wpAny (model PR w) (tA dp un gd fr) (compareOp .GtE (.ref x) o) Q E s := by
  k_with_none
  (k_with "ktr_room" => ((first | k_dflt (exact lt_0 (by assumption) rfl) | k_dflt (exact lt_1 (by assumption) rfl) | ((simp only [depth_under_make, depth_under_kw, depth_in1, depth_deeper, depth_caller, recursionLimit] at *); omega))))
  (k_with "k_room" => ((first | k_dflt (exact lt_0 (by assumption) rfl) | k_dflt (exact lt_1 (by assumption) rfl) | ((simp only [depth_under_make, depth_under_kw, depth_in1, depth_deeper, depth_caller, recursionLimit] at *); omega))))
  (k_with "k_units" => ((first | k_dflt (exact lt_0 (by assumption) rfl) | k_dflt (exact lt_1 (by assumption) rfl) | k_dflt (exact lt_2 (by assumption) rfl) | k_dflt (exact lt_3 (by assumption) rfl) | ((have qhcL9 := cLine_is); (simp only [units_in1, units_deeper, Around.mark_units, units_caller, cLine] at *); omega))))
  (k_with "execs cons" => (((first | (with_reducible show wpAny _ _ _ _ _ (Shared.mk _ _ _ (_ + 1) _)) | (with_reducible show wpAny _ _ _ _ _ (Shared.mk _ _ _ (Shared.toks (Shared.mk _ _ _ _ _)) _))); refine tok_gen (fun tk => ?_))))
  (k_with "k_enter" => ((refine' code_defN ?h88hk2 ?h88hk3 ?h88hk4 ?h88hk5 ?h88hk6 ?h88hk7 ?h88hk8 ?h88hk9 ?h88hkB ?_ ?h88hc2 ?h88hc3 ?h88hc4 ?h88hc5; (case h88hk2 => k_asm); (case h88hk3 => k_asm); (case h88hk4 => k_asm); (case h88hk5 => k_asm); (case h88hk6 => k_is); (case h88hk7 => k_is); (case h88hk8 => k_room); (case h88hk9 => first | exact BindsTo.of_eq rfl | exact binds_K (by k_in) rfl (by k_is) rfl rfl rfl | fail "k_enter: no rule for these arguments"); (case h88hc5 => decide); (case h88hkB => exact locs rfl); (case h88hc2 => exact rfl); (case h88hc3 => exact rfl); (case h88hc4 => exact rfl); k_whole; intro qg' qL' qh' qFG' qF' qN' qX' qT'; (try dsimp only); (try k_fold))))
  (k_with "k_mem" => (assumption))
  (k_with "k_get" => (assumption))
  (k_with "call ref" => ((k_here; (with_reducible show wpAny _ _ (call (Value.ref 56) [Value.ref _, _]) _ _ _); k_dflt (refine' cmp_K ?h91hB ?h91hF ?h91hN ?h91hX ?h91hT ?h91hXB ?h91hTB ?h91hD ?h91hhfr ?h91hhef ?h91hhck ?h91hhdp ?h91hR ?h91hO ?h91hc1 ?h91hc2; (case h91hB => assumption); (case h91hF => k_asm); (case h91hN => k_asm); (case h91hX => k_asm); (case h91hT => k_asm); (case h91hXB => assumption); (case h91hTB => assumption); (case h91hD => assumption); (case h91hhfr => exact rfl); (case h91hhef => exact rfl); (case h91hhck => exact rfl); (case h91hhdp => (first | exact lt_0 (by assumption) rfl | exact lt_1 (by assumption) rfl | exact lt_2 (by assumption) rfl | exact lt_3 (by assumption) rfl | ((try dsimp only); omega))); (case h91hR => assumption); (case h91hO => assumption)); (case' h91hc1 => (intro qq' qh' qtk' qt' qF' qN'; (try k_sweep))); (case' h91hc2 => (intro qq' qG' qh' qtk' qe' qFG' qS' qU'; (try k_sweep))))))
  subst hfr
  obtain ⟨dx, ex, kx, tx, hx1, hx2, hx3⟩ := id R
  have hxc := hx3.cmp
  obtain ⟨tb, hb1, hb2⟩ := oth_type N R hoth
  refine cmp_ofGtE ?_
  k_dflt (refine' PySem.W.cmp_K ?k1 ?k2 ?k3 ?k4 ?k5 ?k6 ?k7 ?k8 ?_; (case k1 => k_units); (case k2 => k_asm); (case k3 => k_asm); (case k4 => k_inst); (case k5 => exact hb1); (case k6 => exact hb2); (case k7 => k_is); (case k8 => k_is); k_whole)
  refine wpAny_call ?_
  k_dflt (refine' code_defE ?k1 ?k2 ?k3 ?k4 ?k5 ?XB ?TB ?D ?T0 ?kA ?kE ?k6 ?k7 ?k8 ?k9 ?kB ?_ ?cK ?c2 ?c3 ?c4 ?c5; (case kA => exact rfl); (case kE => exact hef); (case k2 => k_asm); (case k1 => k_asm); (case XB => assumption); (case TB => assumption); (case D => assumption); (case T0 => first | assumption | exact KtsTurn.refl); (case k3 => k_asm); (case k4 => k_asm); (case k5 => k_asm); (case k6 => k_is); (case k7 => k_is); (case k8 => k_room); (case k9 => exact BindsTo.of_eq rfl); (case kB => exact locs rfl); (case cK => exact hck); (case c2 => exact rfl); (case c3 => exact rfl); (case c4 => exact rfl); (case c5 => decide); k_whole)
  intro g' L' h'' FG' F'' N'' B' X' T' D'
  clear F N B
  dsimp only
  have hrs := fun (q : al = false) h' tk e => hraise q g' h' tk e FG'
  clear hraise
  k_steps
  all_goals first
    | exact hret (by assumption) _ _ (by assumption) (by assumption)
    | exact hrs (by assumption) _ _ _ (by assumption) (by assumption)
end
end Mine
namespace Mine
def wayB (way : Int) : Bool := if way = 0 then true else if way = 1 then false else if way = 2 then false else if way = 3 then false else true
theorem way0 {way : Int} (h : way = 0) : true = wayB way := by subst h; rfl
theorem way1 {way : Int} (h : way = 1) : false = wayB way := by subst h; rfl
theorem way2 {way : Int} (h : way = 2) : false = wayB way := by subst h; rfl
theorem way3 {way : Int} (h : way = 3) : false = wayB way := by subst h; rfl
theorem way4 {way : Int} (h0 : way ≠ 0) (h1 : way ≠ 1) (h2 : way ≠ 2) (h3 : way ≠ 3) : true = wayB way := by rw [wayB, if_neg h0, if_neg h1, if_neg h2, if_neg h3]
section
variable {w : World} {p : Program} {loose : List Str} {mean : ExcName → Option Value} {mg mb : Str → Option Value} {dp un : Nat} {gd : Option (List Code)} {fr : Option (List Env)} {s : Shared} {Q E : Value → Shared → Prop} {n : Int} {t u : Tok} {x : Addr}
theorem compared_K {h₀ base : Heap} {L : Addr} {m : Str → Option Value} {nw : List (Addr × Obj)} {A₀ : Around} {outer : List Env} {env : Env} {al : Bool} {o : Value} {way : Int}
    (B : Below A₀ base outer h₀) (F : Fr h₀ L s.heap m) (N : News h₀ L s.heap nw) (X : (hd.heap_1 w.params).In h₀) (T : Top p loose mean mg mb h₀) (XB : (hd.heap_1 w.params).In base) (TB : Top p loose mean mg mb base) (D : KtsDicts (outer.filterMap (·.frame)) h₀)
    (hfr : fr = some (env :: outer)) (hef : env.frame = some L) (hck : env.scope.kind = .function) (hdp : dp < 670) (hun : un < 170) (R : RefN nw n x) (hoth : Oth nw x n al o)
    (hyes : al = true → ∀ r g' h' tk, r = wayB way → KtsTurn (outer.filterMap (·.frame)) h₀ g' → Fr g' L h' m → News g' L h' nw → Q (.bool r) { s with heap := h', toks := tk })
    (hno : al = false → ∀ g' h' tk t, KtsTurn (outer.filterMap (·.frame)) h₀ g' → Fr g' L h' m → News g' L h' nw → Q (.str "refused" t) { s with heap := h', toks := tk }) :
    wpAny (model PR w) (tA dp un gd fr) (call (.ref 183) [.int way u, .ref x, o]) Q E s := by
  k_with_none
  (k_with "ktr_room" => ((first | k_dflt (exact lt_0 (by assumption) rfl) | k_dflt (exact lt_1 (by assumption) rfl) | ((simp only [depth_under_make, depth_under_kw, depth_in1, depth_deeper, depth_caller, recursionLimit] at *); omega))))
  (k_with "k_room" => ((first | k_dflt (exact lt_0 (by assumption) rfl) | k_dflt (exact lt_1 (by assumption) rfl) | ((simp only [depth_under_make, depth_under_kw, depth_in1, depth_deeper, depth_caller, recursionLimit] at *); omega))))
  (k_with "k_units" => ((first | k_dflt (exact lt_0 (by assumption) rfl) | k_dflt (exact lt_1 (by assumption) rfl) | k_dflt (exact lt_2 (by assumption) rfl) | k_dflt (exact lt_3 (by assumption) rfl) | ((have qhcL9 := cLine_is); (simp only [units_in1, units_deeper, Around.mark_units, units_caller, cLine] at *); omega))))
  (k_with "execs cons" => (((first | (with_reducible show wpAny _ _ _ _ _ (Shared.mk _ _ _ (_ + 1) _)) | (with_reducible show wpAny _ _ _ _ _ (Shared.mk _ _ _ (Shared.toks (Shared.mk _ _ _ _ _)) _))); refine tok_gen (fun tk => ?_))))
  (k_with "k_enter" => ((refine' code_defN ?h96hk2 ?h96hk3 ?h96hk4 ?h96hk5 ?h96hk6 ?h96hk7 ?h96hk8 ?h96hk9 ?h96hkB ?_ ?h96hc2 ?h96hc3 ?h96hc4 ?h96hc5; (case h96hk2 => k_asm); (case h96hk3 => k_asm); (case h96hk4 => k_asm); (case h96hk5 => k_asm); (case h96hk6 => k_is); (case h96hk7 => k_is); (case h96hk8 => k_room); (case h96hk9 => first | exact BindsTo.of_eq rfl | exact binds_K (by k_in) rfl (by k_is) rfl rfl rfl | fail "k_enter: no rule for these arguments"); (case h96hc5 => decide); (case h96hkB => exact locs rfl); (case h96hc2 => exact rfl); (case h96hc3 => exact rfl); (case h96hc4 => exact rfl); k_whole; intro qg' qL' qh' qFG' qF' qN' qX' qT'; (try dsimp only); (try k_fold))))
  (k_with "compareOp Eq ref" => ((k_here; k_dflt (refine' eq_K ?h97hB ?h97hF ?h97hN ?h97hX ?h97hT ?h97hXB ?h97hTB ?h97hD ?h97hhfr ?h97hhef ?h97hhck ?h97hhdp ?h97hhun ?h97hR ?h97hO ?h97hc1 ?h97hc2; (case h97hB => assumption); (case h97hF => k_asm); (case h97hN => k_asm); (case h97hX => k_asm); (case h97hT => k_asm); (case h97hXB => assumption); (case h97hTB => assumption); (case h97hD => assumption); (case h97hhfr => exact rfl); (case h97hhef => exact rfl); (case h97hhck => exact rfl); (case h97hhdp => (first | exact lt_0 (by assumption) rfl | exact lt_1 (by assumption) rfl | exact lt_2 (by assumption) rfl | exact lt_3 (by assumption) rfl | ((try dsimp only); omega))); (case h97hhun => (first | exact lt_0 (by assumption) rfl | exact lt_1 (by assumption) rfl | exact lt_2 (by assumption) rfl | exact lt_3 (by assumption) rfl | ((try dsimp only); omega))); (case h97hR => assumption); (case h97hO => assumption)); (case' h97hc1 => (intro qq' qh' qtk' qF' qN'; (try k_sweep))); (case' h97hc2 => (intro qq' qG' qh' qtk' qe' qFG' qS' qU'; (try k_sweep))))))
  (k_with "compareOp NotEq ref" => ((k_here; k_dflt (refine' ne_K ?h98hB ?h98hF ?h98hN ?h98hX ?h98hT ?h98hXB ?h98hTB ?h98hD ?h98hhfr ?h98hhef ?h98hhck ?h98hhdp ?h98hhun ?h98hR ?h98hO ?h98hc1 ?h98hc2; (case h98hB => assumption); (case h98hF => k_asm); (case h98hN => k_asm); (case h98hX => k_asm); (case h98hT => k_asm); (case h98hXB => assumption); (case h98hTB => assumption); (case h98hD => assumption); (case h98hhfr => exact rfl); (case h98hhef => exact rfl); (case h98hhck => exact rfl); (case h98hhdp => (first | exact lt_0 (by assumption) rfl | exact lt_1 (by assumption) rfl | exact lt_2 (by assumption) rfl | exact lt_3 (by assumption) rfl | ((try dsimp only); omega))); (case h98hhun => (first | exact lt_0 (by assumption) rfl | exact lt_1 (by assumption) rfl | exact lt_2 (by assumption) rfl | exact lt_3 (by assumption) rfl | ((try dsimp only); omega))); (case h98hR => assumption); (case h98hO => assumption)); (case' h98hc1 => (intro qq' qh' qtk' qF' qN'; (try k_sweep))); (case' h98hc2 => (intro qq' qG' qh' qtk' qe' qFG' qS' qU'; (try k_sweep))))))
  (k_with "compareOp Lt ref" => ((k_here; k_dflt (refine' lt_K ?h99hB ?h99hF ?h99hN ?h99hX ?h99hT ?h99hXB ?h99hTB ?h99hD ?h99hhfr ?h99hhef ?h99hhck ?h99hhdp ?h99hhun ?h99hR ?h99hO ?h99hc1 ?h99hc2; (case h99hB => assumption); (case h99hF => k_asm); (case h99hN => k_asm); (case h99hX => k_asm); (case h99hT => k_asm); (case h99hXB => assumption); (case h99hTB => assumption); (case h99hD => assumption); (case h99hhfr => exact rfl); (case h99hhef => exact rfl); (case h99hhck => exact rfl); (case h99hhdp => (first | exact lt_0 (by assumption) rfl | exact lt_1 (by assumption) rfl | exact lt_2 (by assumption) rfl | exact lt_3 (by assumption) rfl | ((try dsimp only); omega))); (case h99hhun => (first | exact lt_0 (by assumption) rfl | exact lt_1 (by assumption) rfl | exact lt_2 (by assumption) rfl | exact lt_3 (by assumption) rfl | ((try dsimp only); omega))); (case h99hR => assumption); (case h99hO => assumption)); (case' h99hc1 => (intro qq' qh' qtk' qF' qN'; (try k_sweep))); (case' h99hc2 => (intro qq' qG' qh' qtk' qe' qFG' qS' qU'; (try k_sweep))))))
  (k_with "compareOp Gt ref" => ((k_here; k_dflt (refine' gt_K ?h100hB ?h100hF ?h100hN ?h100hX ?h100hT ?h100hXB ?h100hTB ?h100hD ?h100hhfr ?h100hhef ?h100hhck ?h100hhdp ?h100hhun ?h100hR ?h100hO ?h100hc1 ?h100hc2; (case h100hB => assumption); (case h100hF => k_asm); (case h100hN => k_asm); (case h100hX => k_asm); (case h100hT => k_asm); (case h100hXB => assumption); (case h100hTB => assumption); (case h100hD => assumption); (case h100hhfr => exact rfl); (case h100hhef => exact rfl); (case h100hhck => exact rfl); (case h100hhdp => (first | exact lt_0 (by assumption) rfl | exact lt_1 (by assumption) rfl | exact lt_2 (by assumption) rfl | exact lt_3 (by assumption) rfl | ((try dsimp only); omega))); (case h100hhun => (first | exact lt_0 (by assumption) rfl | exact lt_1 (by assumption) rfl | exact lt_2 (by assumption) rfl | exact lt_3 (by assumption) rfl | ((try dsimp only); omega))); (case h100hR => assumption); (case h100hO => assumption)); (case' h100hc1 => (intro qq' qh' qtk' qF' qN'; (try k_sweep))); (case' h100hc2 => (intro qq' qG' qh' qtk' qe' qFG' qS' qU'; (try k_sweep))))))
  (k_with "compareOp LtE ref" => ((k_here; k_dflt (refine' le_K ?h101hB ?h101hF ?h101hN ?h101hX ?h101hT ?h101hXB ?h101hTB ?h101hD ?h101hhfr ?h101hhef ?h101hhck ?h101hhdp ?h101hhun ?h101hR ?h101hO ?h101hc1 ?h101hc2; (case h101hB => assumption); (case h101hF => k_asm); (case h101hN => k_asm); (case h101hX => k_asm); (case h101hT => k_asm); (case h101hXB => assumption); (case h101hTB => assumption); (case h101hD => assumption); (case h101hhfr => exact rfl); (case h101hhef => exact rfl); (case h101hhck => exact rfl); (case h101hhdp => (first | exact lt_0 (by assumption) rfl | exact lt_1 (by assumption) rfl | exact lt_2 (by assumption) rfl | exact lt_3 (by assumption) rfl | ((try dsimp only); omega))); (case h101hhun => (first | exact lt_0 (by assumption) rfl | exact lt_1 (by assumption) rfl | exact lt_2 (by assumption) rfl | exact lt_3 (by assumption) rfl | ((try dsimp only); omega))); (case h101hR => assumption); (case h101hO => assumption)); (case' h101hc1 => (intro qq' qh' qtk' qF' qN'; (try k_sweep))); (case' h101hc2 => (intro qq' qG' qh' qtk' qe' qFG' qS' qU'; (try k_sweep))))))
  (k_with "compareOp GtE ref" => ((k_here; k_dflt (refine' ge_K ?h102hB ?h102hF ?h102hN ?h102hX ?h102hT ?h102hXB ?h102hTB ?h102hD ?h102hhfr ?h102hhef ?h102hhck ?h102hhdp ?h102hhun ?h102hR ?h102hO ?h102hc1 ?h102hc2; (case h102hB => assumption); (case h102hF => k_asm); (case h102hN => k_asm); (case h102hX => k_asm); (case h102hT => k_asm); (case h102hXB => assumption); (case h102hTB => assumption); (case h102hD => assumption); (case h102hhfr => exact rfl); (case h102hhef => exact rfl); (case h102hhck => exact rfl); (case h102hhdp => (first | exact lt_0 (by assumption) rfl | exact lt_1 (by assumption) rfl | exact lt_2 (by assumption) rfl | exact lt_3 (by assumption) rfl | ((try dsimp only); omega))); (case h102hhun => (first | exact lt_0 (by assumption) rfl | exact lt_1 (by assumption) rfl | exact lt_2 (by assumption) rfl | exact lt_3 (by assumption) rfl | ((try dsimp only); omega))); (case h102hR => assumption); (case h102hO => assumption)); (case' h102hc1 => (intro qq' qh' qtk' qF' qN'; (try k_sweep))); (case' h102hc2 => (intro qq' qG' qh' qtk' qe' qFG' qS' qU'; (try k_sweep))))))
  subst hfr
  refine wpAny_call ?_
  k_dflt (refine' code_defE ?k1 ?k2 ?k3 ?k4 ?k5 ?XB ?TB ?D ?T0 ?kA ?kE ?k6 ?k7 ?k8 ?k9 ?kB ?_ ?cK ?c2 ?c3 ?c4 ?c5; (case kA => exact rfl); (case kE => exact hef); (case k2 => k_asm); (case k1 => k_asm); (case XB => assumption); (case TB => assumption); (case D => assumption); (case T0 => first | assumption | exact KtsTurn.refl); (case k3 => k_asm); (case k4 => k_asm); (case k5 => k_asm); (case k6 => k_is); (case k7 => k_is); (case k8 => k_room); (case k9 => exact BindsTo.of_eq rfl); (case kB => exact locs rfl); (case cK => exact hck); (case c2 => exact rfl); (case c3 => exact rfl); (case c4 => exact rfl); (case c5 => decide); k_whole)
  intro g' L' h'' FG' F'' N'' B' X' T' D'
  clear F N B
  dsimp only
  k_steps
  all_goals first
    | exact hno (by assumption) _ _ _ _ (by assumption) (by assumption) (by assumption)
    | exact hyes (by assumption) _ _ _ _ (way0 (by assumption)) KtsTurn.refl (by assumption) (by assumption)
    | exact hyes (by assumption) _ _ _ _ (way1 (by assumption)) KtsTurn.refl (by assumption) (by assumption)
    | exact hyes (by assumption) _ _ _ _ (way2 (by assumption)) KtsTurn.refl (by assumption) (by assumption)
    | exact hyes (by assumption) _ _ _ _ (way3 (by assumption)) KtsTurn.refl (by assumption) (by assumption)
    | exact hyes (by assumption) _ _ _ _ (way4 (by assumption) (by assumption) (by assumption) (by assumption)) KtsTurn.refl (by assumption) (by assumption)
end
end Mine
namespace Mine
noncomputable def hasKl (n : Int) : Bool := [0, 1, 4].any fun x => x == n.fmod 8
def KlD (nw : List (Addr × Obj)) (n : Int) (v : Value) : Prop := (hasKl n = true ∧ ∃ c t1 t2, v = .ref c ∧ (c, tupO [.str "m" t1, .str (nameS n) t2]) ∈ nw) ∨ (hasKl n = false ∧ v = .none)
/-- what _law_due gives -/
def DueN (nw : List (Addr × Obj)) (n : Int) (a : Addr) : Prop := ∃ bv nv t1, (a, tupO [.bytes (oidB n) t1, bv, .bool (weakB n), nv]) ∈ nw ∧ DbV n bv ∧ KlD nw n nv
theorem KlD.mono {nw nw' : List (Addr × Obj)} {n : Int} {v : Value} (h : KlD nw n v) (hs : ∀ p ∈ nw, p ∈ nw') : KlD nw' n v := by
  rcases h with ⟨a, c, t1, t2, b, d⟩ | h
  · exact .inl ⟨a, c, t1, t2, b, hs _ d⟩
  · exact .inr h
theorem DueN.mono {nw nw' : List (Addr × Obj)} {n : Int} {a : Addr} (h : DueN nw n a) (hs : ∀ p ∈ nw, p ∈ nw') : DueN nw' n a := by
  obtain ⟨bv, nv, t1, a, b, c⟩ := h
  exact ⟨bv, nv, t1, hs _ a, b, c.mono hs⟩
theorem db45 {n : Int} (h : ([4, 5].any fun x => x == n.fmod 8) = true) : hasDb n = true := by
  simp only [List.any_cons, List.any_nil, Bool.or_false, Bool.or_eq_true, beq_iff_eq] at h
  rcases h with h | h
  · exact hasDb_4 h.symm
  · exact hasDb_5 h.symm
theorem db6 {n : Int} (h : n.fmod 8 = 6) (hb : (baseS n != Str.ofString "") = true) : hasDb n = true := hasDb_6b h (by simpa using hb)
theorem db6e {n : Int} (h : n.fmod 8 = 6) (hb : (baseS n != Str.ofString "") = false) : hasDb n = false := hasDb_6e h (by simpa using hb)
theorem db_no {n : Int} (h : ([4, 5].any fun x => x == n.fmod 8) = false) (h6 : n.fmod 8 ≠ 6) : hasDb n = false := by
  simp only [List.any_cons, List.any_nil, Bool.or_false, Bool.or_eq_false_iff, beq_eq_false_iff_ne] at h
  have h4 : n.fmod 8 ≠ 4 := fun e => h.1 e.symm
  have h5 : n.fmod 8 ≠ 5 := fun e => h.2 e.symm
  simp [hasDb, h4, h5, h6]
section
variable {w : World} {p : Program} {loose : List Str} {mean : ExcName → Option Value} {mg mb : Str → Option Value} {dp un : Nat} {gd : Option (List Code)} {fr : Option (List Env)} {s : Shared} {Q E : Value → Shared → Prop} {n : Int} {t u : Tok} {x y : Str}
theorem due_K {h₀ : Heap} {L : Addr} {m : Str → Option Value} {nw : List (Addr × Obj)} (F : Fr h₀ L s.heap m) (N : News h₀ L s.heap nw) (X : (hd.heap_1 w.params).In h₀) (T : Top p loose mean mg mb h₀) (hdp : dp < 690) (hun : un < 190)
    (hret : ∀ a nw' h' tk, (∀ p ∈ nw, p ∈ nw') → Fr h₀ L h' m → News h₀ L h' nw' → DueN nw' n a → Q (.ref a) { s with heap := h', toks := tk }) :
    wpAny (model PR w) (tA dp un gd fr) (call (.ref 162) [.int n t]) Q E s := by
  k_with_none
  (k_with "ktr_room" => ((first | k_dflt (exact lt_0 (by assumption) rfl) | k_dflt (exact lt_1 (by assumption) rfl) | ((simp only [depth_under_make, depth_under_kw, depth_in1, depth_deeper, depth_caller, recursionLimit] at *); omega))))
  (k_with "k_room" => ((first | k_dflt (exact lt_0 (by assumption) rfl) | k_dflt (exact lt_1 (by assumption) rfl) | ((simp only [depth_under_make, depth_under_kw, depth_in1, depth_deeper, depth_caller, recursionLimit] at *); omega))))
  (k_with "k_units" => ((first | k_dflt (exact lt_0 (by assumption) rfl) | k_dflt (exact lt_1 (by assumption) rfl) | k_dflt (exact lt_2 (by assumption) rfl) | k_dflt (exact lt_3 (by assumption) rfl) | ((have qhcL9 := cLine_is); (simp only [units_in1, units_deeper, Around.mark_units, units_caller, cLine] at *); omega))))
  (k_with "execs cons" => (((first | (with_reducible show wpAny _ _ _ _ _ (Shared.mk _ _ _ (_ + 1) _)) | (with_reducible show wpAny _ _ _ _ _ (Shared.mk _ _ _ (Shared.toks (Shared.mk _ _ _ _ _)) _))); refine tok_gen (fun tk => ?_))))
  (k_with "k_enter" => ((refine' code_defN ?h107hk2 ?h107hk3 ?h107hk4 ?h107hk5 ?h107hk6 ?h107hk7 ?h107hk8 ?h107hk9 ?h107hkB ?_ ?h107hc2 ?h107hc3 ?h107hc4 ?h107hc5; (case h107hk2 => k_asm); (case h107hk3 => k_asm); (case h107hk4 => k_asm); (case h107hk5 => k_asm); (case h107hk6 => k_is); (case h107hk7 => k_is); (case h107hk8 => k_room); (case h107hk9 => first | exact BindsTo.of_eq rfl | exact binds_K (by k_in) rfl (by k_is) rfl rfl rfl | fail "k_enter: no rule for these arguments"); (case h107hc5 => decide); (case h107hkB => exact locs rfl); (case h107hc2 => exact rfl); (case h107hc3 => exact rfl); (case h107hc4 => exact rfl); k_whole; intro qg' qL' qh' qFG' qF' qN' qX' qT'; (try dsimp only); (try k_fold))))
  (k_with "call ref" => ((k_here; (with_reducible show wpAny _ _ (call (Value.ref 141) [Value.int _ _]) _ _ _); k_dflt (refine' parts_K ?h108hF ?h108hN ?h108hX ?h108hT ?h108hd ?h108hu ?_; (case h108hF => k_asm); (case h108hN => k_asm); (case h108hX => k_asm); (case h108hT => k_asm); (case h108hd => (first | exact lt_0 (by assumption) rfl | exact lt_1 (by assumption) rfl | exact lt_2 (by assumption) rfl | exact lt_3 (by assumption) rfl | ((try dsimp only); omega))); (case h108hu => (first | exact lt_0 (by assumption) rfl | exact lt_1 (by assumption) rfl | exact lt_2 (by assumption) rfl | exact lt_3 (by assumption) rfl | ((try dsimp only); omega))); k_whole); intro qa' qb' qu1 qu2 qu3 qu4 qu5 qu6 qh' qtk' qF' qN'; (try k_sweep))))
  refine wpAny_call ?_
  k_dflt k_enter
  have f0 := Int.fmod_nonneg_of_pos n (b := 8) (by decide)
  have f8 := Int.fmod_lt_of_pos n (b := 8) (by decide)
  k_steps
  all_goals (with_reducible rename Fr _ _ _ _ => F9); (with_reducible rename News _ _ _ _ => N9)
  all_goals refine hret _ _ _ _ (fun p hp => by simp only [List.mem_cons, hp, or_true]) F9 N9 ⟨_, _, _, List.Mem.head _, ?_, ?_⟩
  all_goals first
    | exact .inl ⟨db45 (by assumption), _, rfl⟩
    | exact .inl ⟨db6 (by assumption) (by assumption), _, rfl⟩
    | exact .inr ⟨db6e (by assumption) (by assumption), rfl⟩
    | exact .inr ⟨db_no (by assumption) (by assumption), rfl⟩
    | exact .inl ⟨by assumption, _, _, _, rfl, by k_mem⟩
    | exact .inr ⟨by assumption, rfl⟩
end
end Mine
namespace Mine
noncomputable def form8 (i : Int) : Int := if i < 2 then 0 else if i < 4 then 2 else i
noncomputable def baseK (n : Int) : Str := if ([4, 5, 6].any fun x => x == n.fmod 8) = true then baseS n else Str.ofString ""
noncomputable def namesD (n : Int) : D := if hasKl n = true then nmD n else .tup [.str "", .str ""]
/-- what _law_key gives -/
noncomputable def keyD (n : Int) : D := .tup [.int (form8 (n.fmod 8)), .bytes (oidB n), .str (baseK n), namesD n, .int ((n.fdiv 144).fmod 2)]
section
variable {prog : Program} {w : World} {A : Around} {s : Shared} {E : Value → Shared → Prop}
theorem item8 {l : Addr} {i : Int} {u t0 t1 t2 t3 t4 t5 t6 t7 : Tok} {value slice : PySem.Expr} {n : Nat} {Q : Value → Shared → Prop} {h₀ : Heap} {L : Addr} {news : List (Addr × Obj)} (N : News h₀ L s.heap news)
    (hl : (l, listOf #[.int 0 t0, .int 0 t1, .int 2 t2, .int 2 t3, .int 4 t4, .int 5 t5, .int 6 t6, .int 7 t7] n) ∈ news) (h0 : 0 ≤ i) (h1 : i < 8) (h : ∀ t, Q (.int (form8 i) t) s)
    (hs : subscripted slice false (.ref l) (.int i u) = operate [.ref l, .int i u] (getItem (.ref l) (.int i u)) := by with_unfolding_all rfl) :
    wpAny (model prog w) A (subscriptTail value slice (.ref l) (.int i u)) Q E s := by
  have key : ∃ t, ([.int 0 t0, .int 0 t1, .int 2 t2, .int 2 t3, .int 4 t4, .int 5 t5, .int 6 t6, .int 7 t7] : List Value)[i.toNat]? = some (.int (form8 i) t) := by
    rcases int8 h0 h1 with rfl | rfl | rfl | rfl | rfl | rfl | rfl | rfl <;> exact ⟨_, rfl⟩
  obtain ⟨t, ht⟩ := key
  exact itemL N (vs := [.int 0 t0, .int 0 t1, .int 2 t2, .int 2 t3, .int 4 t4, .int 5 t5, .int 6 t6, .int 7 t7]) hl h0 (lt_63 h1 (by decide)) ht (h t) hs
end
section
variable {w : World} {p : Program} {loose : List Str} {mean : ExcName → Option Value} {mg mb : Str → Option Value} {dp un : Nat} {gd : Option (List Code)} {fr : Option (List Env)} {s : Shared} {Q E : Value → Shared → Prop} {n : Int} {t u : Tok} {x y : Str}
theorem key_K {h₀ : Heap} {L : Addr} {m : Str → Option Value} {nw : List (Addr × Obj)} (F : Fr h₀ L s.heap m) (N : News h₀ L s.heap nw) (X : (hd.heap_1 w.params).In h₀) (T : Top p loose mean mg mb h₀) (hdp : dp < 690) (hun : un < 190)
    (hret : ∀ a nw' h' tk, (∀ p ∈ nw, p ∈ nw') → Fr h₀ L h' m → News h₀ L h' nw' → IsL nw' (.ref a) (keyD n) → Q (.ref a) { s with heap := h', toks := tk }) :
    wpAny (model PR w) (tA dp un gd fr) (call (.ref 155) [.int n t]) Q E s := by
  k_with_none
  (k_with "ktr_room" => ((first | k_dflt (exact lt_0 (by assumption) rfl) | k_dflt (exact lt_1 (by assumption) rfl) | ((simp only [depth_under_make, depth_under_kw, depth_in1, depth_deeper, depth_caller, recursionLimit] at *); omega))))
  (k_with "k_room" => ((first | k_dflt (exact lt_0 (by assumption) rfl) | k_dflt (exact lt_1 (by assumption) rfl) | ((simp only [depth_under_make, depth_under_kw, depth_in1, depth_deeper, depth_caller, recursionLimit] at *); omega))))
  (k_with "k_units" => ((first | k_dflt (exact lt_0 (by assumption) rfl) | k_dflt (exact lt_1 (by assumption) rfl) | k_dflt (exact lt_2 (by assumption) rfl) | k_dflt (exact lt_3 (by assumption) rfl) | ((have qhcL9 := cLine_is); (simp only [units_in1, units_deeper, Around.mark_units, units_caller, cLine] at *); omega))))
  (k_with "execs cons" => (((first | (with_reducible show wpAny _ _ _ _ _ (Shared.mk _ _ _ (_ + 1) _)) | (with_reducible show wpAny _ _ _ _ _ (Shared.mk _ _ _ (Shared.toks (Shared.mk _ _ _ _ _)) _))); refine tok_gen (fun tk => ?_))))
  (k_with "k_enter" => ((refine' code_defN ?h113hk2 ?h113hk3 ?h113hk4 ?h113hk5 ?h113hk6 ?h113hk7 ?h113hk8 ?h113hk9 ?h113hkB ?_ ?h113hc2 ?h113hc3 ?h113hc4 ?h113hc5; (case h113hk2 => k_asm); (case h113hk3 => k_asm); (case h113hk4 => k_asm); (case h113hk5 => k_asm); (case h113hk6 => k_is); (case h113hk7 => k_is); (case h113hk8 => k_room); (case h113hk9 => first | exact BindsTo.of_eq rfl | exact binds_K (by k_in) rfl (by k_is) rfl rfl rfl | fail "k_enter: no rule for these arguments"); (case h113hc5 => decide); (case h113hkB => exact locs rfl); (case h113hc2 => exact rfl); (case h113hc3 => exact rfl); (case h113hc4 => exact rfl); k_whole; intro qg' qL' qh' qFG' qF' qN' qX' qT'; (try dsimp only); (try k_fold))))
  (k_with "call ref" => ((k_here; (with_reducible show wpAny _ _ (call (Value.ref 141) [Value.int _ _]) _ _ _); k_dflt (refine' parts_K ?h114hF ?h114hN ?h114hX ?h114hT ?h114hd ?h114hu ?_; (case h114hF => k_asm); (case h114hN => k_asm); (case h114hX => k_asm); (case h114hT => k_asm); (case h114hd => (first | exact lt_0 (by assumption) rfl | exact lt_1 (by assumption) rfl | exact lt_2 (by assumption) rfl | exact lt_3 (by assumption) rfl | ((try dsimp only); omega))); (case h114hu => (first | exact lt_0 (by assumption) rfl | exact lt_1 (by assumption) rfl | exact lt_2 (by assumption) rfl | exact lt_3 (by assumption) rfl | ((try dsimp only); omega))); k_whole); intro qa' qb' qu1 qu2 qu3 qu4 qu5 qu6 qh' qtk' qF' qN'; (try k_sweep))))
  (k_with "subscriptTail" => ((k_here; (with_reducible show wpAny _ _ (subscriptTail _ _ (Value.ref _) (Value.int (Int.fmod _ _) _)) _ _ _); k_dflt (refine' item8 ?h115hk1 ?h115hk2 ?h115hk3 ?h115hk4 ?_ ?h115hk6; (case h115hk1 => k_asm); (case h115hk2 => k_mem); (case h115hk3 => exact fm_ge _ rfl); (case h115hk4 => exact fm_lt _ rfl); (case h115hk6 => with_unfolding_all rfl); k_whole); intro qt')))
  refine wpAny_call ?_
  k_dflt k_enter
  have f0 := Int.fmod_nonneg_of_pos n (b := 8) (by decide)
  have f8 := Int.fmod_lt_of_pos n (b := 8) (by decide)
  k_steps
  all_goals (with_reducible rename Fr _ _ _ _ => F9); (with_reducible rename News _ _ _ _ => N9)
  all_goals refine hret _ _ _ _ (fun p hp => by simp only [List.mem_cons, hp, or_true]) F9 N9 (.tup (List.Mem.head _) (.cons (.int _ _) (.cons (.bytes _ _) (.cons ?_ (.cons ?_ (.cons (.int _ _) .nil))))))
  all_goals first
    | (rw [baseK, if_pos (by assumption)]; exact .str _ _)
    | (rw [baseK, if_neg (Bool.not_eq_true _ ▸ (by assumption))]; exact .str _ _)
    | (rw [namesD, if_pos (by assumption)]; exact nm_L (by k_mem))
    | (rw [namesD, if_neg (Bool.not_eq_true _ ▸ (by assumption))]; exact .tup (by k_mem) (.cons (.str _ _) (.cons (.str _ _) .nil)))
end
end Mine
namespace Mine
/-- the weak form with a database -/
def Val6 (nw : List (Addr × Obj)) (n : Int) (r : Value) : Prop := n.fmod 8 = 6 ∧ baseS n ≠ Str.ofString "" ∧ ∃ v l a t1 t2 k, OidV n v ∧ r = .ref l ∧ (l, listOf #[.str "w" t1, .ref a] k) ∈ nw ∧ (a, tupO [v, .str (baseS n) t2]) ∈ nw
/-- a value and what of it may turn -/
def ValA (nw : List (Addr × Obj)) (n : Int) (bad : Bool) (mu : List (Addr × Obj)) (r : Value) : Prop := ValL nw n bad mu r ∨ (mu = [] ∧ Val6 nw n r)
theorem at_ne {h : Heap} {a b : Addr} {o o' : Obj} (ha : h.get? a = some o) (hb : h.get? b = some o') (hne : o ≠ o') : a ≠ b := by
  rintro rfl
  rw [ha] at hb
  exact hne (Option.some.inj hb)
theorem val_ledger {h₀ h h' : Heap} {L : Addr} {m : Str → Option Value} {nw : List (Addr × Obj)} {n : Int} {bad : Bool} {r : Value} (F : Fr h₀ L h m) (N : News h₀ L h nw) (k : Kp h h') (v : ValC h h' n bad r) :
    ∃ mu nv, News h₀ L h' (mu ++ (nv ++ nw)) ∧ ValA (nv ++ nw) n bad mu r := by
  have N0 := news_kp N k
  have add : ∀ {a : Addr} {o : Obj} {l : List (Addr × Obj)}, NW h h' a o → News h₀ L h' l → News h₀ L h' ((a, o) :: l) := fun x N => news_add F N x.1 x.2
  have old : ∀ {a : Addr} {o : Obj}, NW h h' a o → ∀ p ∈ nw, p.1 ≠ a := fun x p hp q => by
    have := (N p hp).1
    rw [q, x.1] at this
    cases this
  cases v with
  | @f0 v a c hf hv ha hc =>
    rcases hc with ⟨hb, t1, t2, hc⟩ | ⟨hb, dx, d, hh, t0, k', t1, t2, hc, hdx, hd⟩
    · subst hb
      exact ⟨[], [(a, _), (c, _)], add ha (add hc N0), .inl (.f0 hf hv (.head _) (.tail _ (.head _)))⟩
    · subst hb
      exact ⟨[], [(a, _), (c, _), (dx, _), (d, _)], add ha (add hc (add hdx (add hd N0))), .inl (.f0b hf hv (.head _) (.tail _ (.head _)) (.tail _ (.tail _ (.head _))) (.tail _ (.tail _ (.tail _ (.head _)))))⟩
  | f2 h2 h4 hv => exact ⟨[], [], N0, .inl (.f2 h2 h4 hv)⟩
  | @f4 v l a c t1 t2 k' hf hv hl ha hc =>
    rcases hc with ⟨hb, t3, t4, hc⟩ | ⟨hb, dx, d, hh, t0, k'', t3, t4, hc, hdx, hd⟩
    · subst hb
      exact ⟨[], [(l, _), (a, _), (c, _)], add hl (add ha (add hc N0)), .inl (.f4 hf hv (.head _) (.tail _ (.head _)) (.tail _ (.tail _ (.head _))))⟩
    · subst hb
      refine ⟨[(l, _)], [(a, _), (c, _), (dx, _), (d, _)], add hl (add ha (add hc (add hdx (add hd N0)))), .inl (.f4b hf hv (.head _) (.tail _ (.head _)) (.tail _ (.tail _ (.head _))) (.tail _ (.tail _ (.tail _ (.head _)))) ?_)⟩
      intro p hp
      simp only [List.cons_append, List.nil_append, List.mem_cons] at hp
      rcases hp with rfl | rfl | rfl | rfl | hp
      · exact at_ne ha.2 hl.2 (fun e => absurd (Value.type.inj (congrArg Obj.cls e)) (by decide))
      · exact at_ne hc.2 hl.2 (fun e => by cases e)
      · exact at_ne hdx.2 hl.2 (fun e => absurd (Value.type.inj (congrArg Obj.cls e)) (by decide))
      · exact at_ne hd.2 hl.2 (fun e => absurd (Value.type.inj (congrArg Obj.cls e)) (by decide))
      · exact old hl p hp
  | @f5 v l a t1 t2 k' hf hv hl ha => exact ⟨[], [(l, _), (a, _)], add hl (add ha N0), .inl (.f5 hf hv (.head _) (.tail _ (.head _)))⟩
  | @f6 v l a t1 k' hf hb hv hl ha => exact ⟨[], [(l, _), (a, _)], add hl (add ha N0), .inl (.f6 hf hb hv (.head _) (.tail _ (.head _)))⟩
  | @f6b v l a t1 t2 k' hf hb hv hl ha => exact ⟨[], [(l, _), (a, _)], add hl (add ha N0), .inr ⟨rfl, hf, hb, v, l, a, t1, t2, k', hv, rfl, .head _, .tail _ (.head _)⟩⟩
  | @f7 v l k' hf hv hl => exact ⟨[], [(l, _)], add hl N0, .inl (.f7 hf hv (.head _))⟩
theorem nmV {n : Int} {nw : List (Addr × Obj)} {r : Value} (h : ValL nw n false [] r) : IsL nw r (valD n) := by
  cases h with
  | f0 hf hv ha hc => rw [valD_lt2 hf]; exact .tup ha (.cons (oidV_L hv _) (.cons (nm_L hc) .nil))
  | f2 h2 h4 hv => rw [valD_lt4 h2 h4]; exact oidV_L hv _
  | f4 hf hv hl ha hc => rw [valD_4 hf]; exact .list hl (.cons (.str _ _) (.cons (.tup ha (.cons (.str _ _) (.cons (oidV_L hv _) (.cons (nm_L hc) .nil)))) .nil))
  | f5 hf hv hl ha => rw [valD_5 hf]; exact .list hl (.cons (.str _ _) (.cons (.tup ha (.cons (.str _ _) (.cons (oidV_L hv _) .nil))) .nil))
  | f6 hf hb hv hl ha => rw [valD_6 hf, if_pos hb]; exact .list hl (.cons (.str _ _) (.cons (.tup ha (.cons (oidV_L hv _) .nil)) .nil))
  | f7 hf hv hl => rw [valD_7 hf]; exact .list hl (.cons (oidV_L hv _) .nil)
/-- a value with its class found stands for its datum -/
theorem ValA.datum {n : Int} {nw mu : List (Addr × Obj)} {r : Value} (h : ValA nw n false mu r) : mu = [] ∧ IsL nw r (valD n) := by
  rcases h with h | ⟨rfl, hf, hb, v, l, a, t1, t2, k, hv, rfl, hl, ha⟩
  · have : mu = [] := by cases h <;> rfl
    subst this
    exact ⟨rfl, nmV h⟩
  · exact ⟨rfl, by rw [valD_6 hf, if_neg hb]; exact .list hl (.cons (.str _ _) (.cons (.tup ha (.cons (oidV_L hv _) (.cons (.str _ _) .nil))) .nil))⟩
theorem bad_false (n : Int) : badB false n = false := rfl
section
variable {w : World} {p : Program} {loose : List Str} {mean : ExcName → Option Value} {mg mb : Str → Option Value} {dp un : Nat} {gd : Option (List Code)} {fr : Option (List Env)} {s : Shared} {Q E : Value → Shared → Prop} {n : Int} {t u : Tok}
theorem value_K {h₀ : Heap} {L : Addr} {m : Str → Option Value} {nw : List (Addr × Obj)} {lost : Bool} (F : Fr h₀ L s.heap m) (N : News h₀ L s.heap nw) (X : (hd.heap_1 w.params).In h₀) (T : Top p loose mean mg mb h₀) (hdp : dp < 690) (hun : un < 190)
    (hret : ∀ r mu nv h' tk, Fr h₀ L h' m → News h₀ L h' (mu ++ (nv ++ nw)) → ValA (nv ++ nw) n (badB lost n) mu r → Q r { s with heap := h', toks := tk }) :
    wpAny (model PR w) (tA dp un gd fr) (call (.ref 148) [.int n t, .bool lost]) Q E s := by
  refine value_con (X.keeps F.keep) (T.keeps F.keep) hdp hun fun r h' tk' k v => ?_
  obtain ⟨mu, nv, N', v'⟩ := val_ledger F N k v
  exact hret r mu nv h' tk' (fr_kp F k) N' v'
/-- the form of a value with its class found, as a datum -/
theorem valueD_K {h₀ : Heap} {L : Addr} {m : Str → Option Value} {nw : List (Addr × Obj)} (F : Fr h₀ L s.heap m) (N : News h₀ L s.heap nw) (X : (hd.heap_1 w.params).In h₀) (T : Top p loose mean mg mb h₀) (hdp : dp < 690) (hun : un < 190)
    (hret : ∀ r nv h' tk, Fr h₀ L h' m → News h₀ L h' (nv ++ nw) → ValA (nv ++ nw) n false [] r → IsL (nv ++ nw) r (valD n) → Q r { s with heap := h', toks := tk }) :
    wpAny (model PR w) (tA dp un gd fr) (call (.ref 148) [.int n t, .bool false]) Q E s := by
  refine value_K F N X T hdp hun fun r mu nv h' tk F' N' v => ?_
  rw [bad_false] at v
  obtain ⟨rfl, d⟩ := v.datum
  exact hret r nv h' tk F' N' v d
end
end Mine
namespace Mine
theorem fmod_e (a : Int) {b : Int} (h : decide (0 ≤ b) = true) : a.fmod b = a % b := Int.fmod_eq_emod_of_nonneg a (of_decide_eq_true h)
theorem fdiv_e (a : Int) {b : Int} (h : decide (0 ≤ b) = true) : a.fdiv b = a / b := Int.fdiv_eq_ediv_of_nonneg a (of_decide_eq_true h)
theorem md (n q : Int) {a b : Int} (c : Int) (ha : decide (0 ≤ a) = true) (hb : decide (0 ≤ b) = true) (h : a ≠ 0) (k : Int) (e : k = a * (b * c)) : ((n - k * q).fdiv a).fmod b = (n.fdiv a).fmod b := by
  rw [fmod_e _ hb, fmod_e _ hb, fdiv_e _ ha, fdiv_e _ ha, e, Int.mul_assoc, Int.sub_eq_add_neg, ← Int.mul_neg, Int.add_mul_ediv_left _ _ h, Int.mul_assoc, ← Int.mul_neg, Int.add_mul_emod_self_left]
theorem mod8 (n : Int) : (n - 288 * n.fdiv 288).fmod 8 = n.fmod 8 := by
  rw [fmod_e _ rfl, fmod_e _ rfl, show (288 : Int) * n.fdiv 288 = 8 * (36 * n.fdiv 288) from Int.mul_assoc 8 36 _, Int.sub_eq_add_neg, ← Int.mul_neg, Int.add_mul_emod_self_left]
theorem mod8_3 (n : Int) : ((n - 288 * n.fdiv 288).fdiv 8).fmod 3 = (n.fdiv 8).fmod 3 := md n _ 12 rfl rfl (by decide) 288 rfl
theorem mod24_3 (n : Int) : ((n - 288 * n.fdiv 288).fdiv 24).fmod 3 = (n.fdiv 24).fmod 3 := md n _ 4 rfl rfl (by decide) 288 rfl
theorem mod72_2 (n : Int) : ((n - 288 * n.fdiv 288).fdiv 72).fmod 2 = (n.fdiv 72).fmod 2 := md n _ 2 rfl rfl (by decide) 288 rfl
theorem mod144_2 (n : Int) : ((n - 288 * n.fdiv 288).fdiv 144).fmod 2 = (n.fdiv 144).fmod 2 := md n _ 1 rfl rfl (by decide) 288 rfl
theorem valD_mod (n : Int) : valD (n - 288 * n.fdiv 288) = valD n := by
  unfold valD oidD nmD nameS oidB octs oidS baseS
  rw [mod8, mod8_3, mod24_3, mod72_2, mod144_2]
section
variable {w : World} {p : Program} {loose : List Str} {mean : ExcName → Option Value} {mg mb : Str → Option Value} {dp un : Nat} {gd : Option (List Code)} {fr : Option (List Env)} {s : Shared} {Q E : Value → Shared → Prop} {n : Int} {t u : Tok}
theorem made_K {h₀ : Heap} {L : Addr} {m : Str → Option Value} {nw : List (Addr × Obj)} (F : Fr h₀ L s.heap m) (N : News h₀ L s.heap nw) (X : (hd.heap_1 w.params).In h₀) (T : Top p loose mean mg mb h₀) (hdp : dp < 680) (hun : un < 180)
    (hret : ∀ r nv h' tk, Fr h₀ L h' m → News h₀ L h' (nv ++ nw) → IsL (nv ++ nw) r (valD n) → Q r { s with heap := h', toks := tk }) :
    wpAny (model PR w) (tA dp un gd fr) (call (.ref 169) [.int n t]) Q E s := by
  k_with_none
  (k_with "ktr_room" => ((first | k_dflt (exact lt_0 (by assumption) rfl) | k_dflt (exact lt_1 (by assumption) rfl) | ((simp only [depth_under_make, depth_under_kw, depth_in1, depth_deeper, depth_caller, recursionLimit] at *); omega))))
  (k_with "k_room" => ((first | k_dflt (exact lt_0 (by assumption) rfl) | k_dflt (exact lt_1 (by assumption) rfl) | ((simp only [depth_under_make, depth_under_kw, depth_in1, depth_deeper, depth_caller, recursionLimit] at *); omega))))
  (k_with "k_units" => ((first | k_dflt (exact lt_0 (by assumption) rfl) | k_dflt (exact lt_1 (by assumption) rfl) | k_dflt (exact lt_2 (by assumption) rfl) | k_dflt (exact lt_3 (by assumption) rfl) | ((have qhcL9 := cLine_is); (simp only [units_in1, units_deeper, Around.mark_units, units_caller, cLine] at *); omega))))
  (k_with "execs cons" => (((first | (with_reducible show wpAny _ _ _ _ _ (Shared.mk _ _ _ (_ + 1) _)) | (with_reducible show wpAny _ _ _ _ _ (Shared.mk _ _ _ (Shared.toks (Shared.mk _ _ _ _ _)) _))); refine tok_gen (fun tk => ?_))))
  (k_with "k_enter" => ((refine' code_defN ?h120hk2 ?h120hk3 ?h120hk4 ?h120hk5 ?h120hk6 ?h120hk7 ?h120hk8 ?h120hk9 ?h120hkB ?_ ?h120hc2 ?h120hc3 ?h120hc4 ?h120hc5; (case h120hk2 => k_asm); (case h120hk3 => k_asm); (case h120hk4 => k_asm); (case h120hk5 => k_asm); (case h120hk6 => k_is); (case h120hk7 => k_is); (case h120hk8 => k_room); (case h120hk9 => first | exact BindsTo.of_eq rfl | exact binds_K (by k_in) rfl (by k_is) rfl rfl rfl | fail "k_enter: no rule for these arguments"); (case h120hc5 => decide); (case h120hkB => exact locs rfl); (case h120hc2 => exact rfl); (case h120hc3 => exact rfl); (case h120hc4 => exact rfl); k_whole; intro qg' qL' qh' qFG' qF' qN' qX' qT'; (try dsimp only); (try k_fold))))
  (k_with "call ref" => ((k_here; (with_reducible show wpAny _ _ (call (Value.ref 148) [Value.int _ _, Value.bool false]) _ _ _); k_dflt (refine' valueD_K ?h121hF ?h121hN ?h121hX ?h121hT ?h121hd ?h121hu ?_; (case h121hF => k_asm); (case h121hN => k_asm); (case h121hX => k_asm); (case h121hT => k_asm); (case h121hd => (first | exact lt_0 (by assumption) rfl | exact lt_1 (by assumption) rfl | exact lt_2 (by assumption) rfl | exact lt_3 (by assumption) rfl | ((try dsimp only); omega))); (case h121hu => (first | exact lt_0 (by assumption) rfl | exact lt_1 (by assumption) rfl | exact lt_2 (by assumption) rfl | exact lt_3 (by assumption) rfl | ((try dsimp only); omega))); k_whole); intro qr' qnv' qh' qtk' qF' qN' qv' qd'; (try k_sweep))))
  refine wpAny_call ?_
  k_dflt k_enter
  k_steps
  (with_reducible rename IsL _ _ _ => D9)
  rw [valD_mod] at D9
  exact hret _ _ _ _ (by assumption) (by assumption) D9
end
end Mine
namespace Mine
theorem oidD_flat (n : Int) : ∃ d, oidD n = d ∧ d.depth = 0 := by
  unfold oidD; split <;> exact ⟨_, rfl, rfl⟩
theorem valD_depth (n : Int) : (valD n).depth ≤ 8 := by
  obtain ⟨o, e, ho⟩ := oidD_flat n
  unfold valD
  rw [e]
  cases o with
  | tup => cases ho
  | list => cases ho
  | _ => unfold valF; (repeat' split) <;> exact Nat.le_of_ble_eq_true rfl
theorem ref_db_t {w : World} {A : Around} {s : Shared} {E : Value → Shared → Prop} {h₀ : Heap} {L : Addr} {m : Str → Option Value} {nw : List (Addr × Obj)} {n : Int} {x : Addr} {b : Bool} {Q : Value → Shared → Prop} (hb : hasDb n = true) (F : Fr h₀ L s.heap m) (X : (hd.heap_1 w.params).In h₀) (N : News h₀ L s.heap nw) (R : RefN nw n x) (h : ∀ t k, Q (.str (baseS n) t) { s with toks := k }) : wpAny (model PR w) A (getAttr (.ref x) "database_name" b) Q E s := by
  refine ref_db F X N R fun v k hv => ?_
  rcases hv with ⟨_, t, rfl⟩ | ⟨e, rfl⟩
  · exact h t k
  · rw [hb] at e; cases e
theorem ref_db_f {w : World} {A : Around} {s : Shared} {E : Value → Shared → Prop} {h₀ : Heap} {L : Addr} {m : Str → Option Value} {nw : List (Addr × Obj)} {n : Int} {x : Addr} {b : Bool} {Q : Value → Shared → Prop} (hb : hasDb n = false) (F : Fr h₀ L s.heap m) (X : (hd.heap_1 w.params).In h₀) (N : News h₀ L s.heap nw) (R : RefN nw n x) (h : ∀ k, Q .none { s with toks := k }) : wpAny (model PR w) A (getAttr (.ref x) "database_name" b) Q E s := by
  refine ref_db F X N R fun v k hv => ?_
  rcases hv with ⟨e, t, rfl⟩ | ⟨e, rfl⟩
  · rw [hb] at e; cases e
  · exact h k
theorem eq_same {w : World} {A : Around} {s : Shared} {E : Value → Shared → Prop} {h₀ : Heap} {L : Addr} {nw nv : List (Addr × Obj)} {d : D} {a b : Value} {Q : Value → Shared → Prop} (N : News h₀ L s.heap nw) (ha : IsL nv a d) (hb : IsL nw b d) (hs : ∀ p ∈ nv, p ∈ nw) (hd : d.depth ≤ 8) (hu : A.units + 8 < cLine) (h : Q (.bool true) s) : wpAny (model PR w) A (compareOp .Eq a b) Q E s :=
  rc_same (IsL.to N (ha.mono hs)) (IsL.to N hb) (room_less hu hd) PR w E Q h
theorem ne_oidB {w : World} {A : Around} {s : Shared} {E : Value → Shared → Prop} {Q : Value → Shared → Prop} {n : Int} {t u : Tok} (h : Q (.bool false) s) : wpAny (model PR w) A (compareOp .NotEq (.bytes (oidB n) t) (.bytes (oidB n) u)) Q E s :=
  PySem.W.ne_bytes (by simpa using h)
theorem ne_weak {w : World} {A : Around} {s : Shared} {E : Value → Shared → Prop} {Q : Value → Shared → Prop} {b : Bool} (h : Q (.bool false) s) : wpAny (model PR w) A (compareOp .NotEq (.bool b) (.bool b)) Q E s := by
  have := PySem.SeqAt.RcNeAt.bool_bool (A := A) (s := s) b b
  exact this PR w E Q (by simpa using h)
theorem ne_text {w : World} {A : Around} {s : Shared} {E : Value → Shared → Prop} {Q : Value → Shared → Prop} {x : Str} {t u : Tok} (h : Q (.bool false) s) : wpAny (model PR w) A (compareOp .NotEq (.str x t) (.str x u)) Q E s := by
  have := PySem.SeqAt.RcNeAt.str_str (A := A) (s := s) x t x u
  exact this PR w E Q (by simpa using h)
end Mine
namespace Mine
section
variable {w : World} {p : Program} {loose : List Str} {mean : ExcName → Option Value} {mg mb : Str → Option Value} {dp un : Nat} {gd : Option (List Code)} {fr : Option (List Env)} {s : Shared} {Q E : Value → Shared → Prop} {n : Int} {t u : Tok} {x : Addr}
theorem tells_K {h₀ : Heap} {L : Addr} {m : Str → Option Value} {nw : List (Addr × Obj)} (F : Fr h₀ L s.heap m) (N : News h₀ L s.heap nw) (X : (hd.heap_1 w.params).In h₀) (T : Top p loose mean mg mb h₀) (hdp : dp < 670) (hun : un < 170) (R : RefN nw n x)
    (hret : ∀ h' tk, Fr h₀ L h' m → News h₀ L h' nw → Q (.bool true) { s with heap := h', toks := tk }) :
    wpAny (model PR w) (tA dp un gd fr) (call (.ref 176) [.ref x, .int n t]) Q E s := by
  k_with_none
  (k_with "ktr_room" => ((first | k_dflt (exact lt_0 (by assumption) rfl) | k_dflt (exact lt_1 (by assumption) rfl) | ((simp only [depth_under_make, depth_under_kw, depth_in1, depth_deeper, depth_caller, recursionLimit] at *); omega))))
  (k_with "k_room" => ((first | k_dflt (exact lt_0 (by assumption) rfl) | k_dflt (exact lt_1 (by assumption) rfl) | ((simp only [depth_under_make, depth_under_kw, depth_in1, depth_deeper, depth_caller, recursionLimit] at *); omega))))
  (k_with "k_units" => ((first | k_dflt (exact lt_0 (by assumption) rfl) | k_dflt (exact lt_1 (by assumption) rfl) | k_dflt (exact lt_2 (by assumption) rfl) | k_dflt (exact lt_3 (by assumption) rfl) | ((have qhcL9 := cLine_is); (simp only [units_in1, units_deeper, Around.mark_units, units_caller, cLine] at *); omega))))
  (k_with "execs cons" => (((first | (with_reducible show wpAny _ _ _ _ _ (Shared.mk _ _ _ (_ + 1) _)) | (with_reducible show wpAny _ _ _ _ _ (Shared.mk _ _ _ (Shared.toks (Shared.mk _ _ _ _ _)) _))); refine tok_gen (fun tk => ?_))))
  (k_with "k_enter" => ((refine' code_defN ?h131hk2 ?h131hk3 ?h131hk4 ?h131hk5 ?h131hk6 ?h131hk7 ?h131hk8 ?h131hk9 ?h131hkB ?_ ?h131hc2 ?h131hc3 ?h131hc4 ?h131hc5; (case h131hk2 => k_asm); (case h131hk3 => k_asm); (case h131hk4 => k_asm); (case h131hk5 => k_asm); (case h131hk6 => k_is); (case h131hk7 => k_is); (case h131hk8 => k_room); (case h131hk9 => first | exact BindsTo.of_eq rfl | exact binds_K (by k_in) rfl (by k_is) rfl rfl rfl | fail "k_enter: no rule for these arguments"); (case h131hc5 => decide); (case h131hkB => exact locs rfl); (case h131hc2 => exact rfl); (case h131hc3 => exact rfl); (case h131hc4 => exact rfl); k_whole; intro qg' qL' qh' qFG' qF' qN' qX' qT'; (try dsimp only); (try k_fold))))
  (k_with "k_mem" => (assumption))
  (k_with "k_handed" => (exact IsL.handed (by assumption)))
  (k_with "getAttr ref" => ((k_here; (with_reducible show wpAny _ _ (getAttr (Value.ref _) ("oid" : Str) _) _ _ _); k_dflt (refine' ref_oid ?h134hk1 ?h134hk2 ?h134hk3 ?h134hk4 ?_; (case h134hk1 => k_asm); (case h134hk2 => k_asm); (case h134hk3 => k_asm); (case h134hk4 => assumption); k_whole); intro qt' qk')))
  (k_with "getAttr ref" => ((k_here; (with_reducible show wpAny _ _ (getAttr (Value.ref _) ("database_name" : Str) _) _ _ _); k_dflt (refine' ref_db_t ?h135hh ?h135hk1 ?h135hk2 ?h135hk3 ?h135hk4 ?_; (case h135hh => assumption); (case h135hk1 => k_asm); (case h135hk2 => k_asm); (case h135hk3 => k_asm); (case h135hk4 => assumption); k_whole); intro qt' qk')))
  (k_with "getAttr ref" => ((k_here; (with_reducible show wpAny _ _ (getAttr (Value.ref _) ("database_name" : Str) _) _ _ _); k_dflt (refine' ref_db_f ?h136hh ?h136hk1 ?h136hk2 ?h136hk3 ?h136hk4 ?_; (case h136hh => assumption); (case h136hk1 => k_asm); (case h136hk2 => k_asm); (case h136hk3 => k_asm); (case h136hk4 => assumption); k_whole); intro qk')))
  (k_with "getAttr ref" => ((k_here; (with_reducible show wpAny _ _ (getAttr (Value.ref _) ("weak" : Str) _) _ _ _); k_dflt (refine' ref_weak ?h137hk1 ?h137hk2 ?h137hk3 ?h137hk4 ?_; (case h137hk1 => k_asm); (case h137hk2 => k_asm); (case h137hk3 => k_asm); (case h137hk4 => assumption); k_whole); intro qk')))
  (k_with "getAttr ref" => ((k_here; (with_reducible show wpAny _ _ (getAttr (Value.ref _) ("data" : Str) _) _ _ _); k_dflt (refine' ref_data ?h138hk1 ?h138hk2 ?h138hk3 ?h138hk4 ?_; (case h138hk1 => k_asm); (case h138hk2 => k_asm); (case h138hk3 => k_asm); (case h138hk4 => assumption); k_whole); intro qv' qk' qhv')))
  (k_with "call ref" => ((k_here; (with_reducible show wpAny _ _ (call (Value.ref 162) [Value.int _ _]) _ _ _); k_dflt (refine' due_K ?h139hF ?h139hN ?h139hX ?h139hT ?h139hd ?h139hu ?_; (case h139hF => k_asm); (case h139hN => k_asm); (case h139hX => k_asm); (case h139hT => k_asm); (case h139hd => (first | exact lt_0 (by assumption) rfl | exact lt_1 (by assumption) rfl | exact lt_2 (by assumption) rfl | exact lt_3 (by assumption) rfl | ((try dsimp only); omega))); (case h139hu => (first | exact lt_0 (by assumption) rfl | exact lt_1 (by assumption) rfl | exact lt_2 (by assumption) rfl | exact lt_3 (by assumption) rfl | ((try dsimp only); omega))); k_whole); intro qa' qnw' qh' qtk' qhs' qF' qN' qhd'; (try k_sweep); k_dflt ((have qhR' := RefN.mono (by assumption) qhs'); obtain ⟨qbv', qnv', qt1', qha', qhb', qhc'⟩ := qhd'; (rcases qhb' with ⟨qe', qt2', qq'⟩ | ⟨qe', qq'⟩); all_goals subst qq'))))
  (k_with "call ref" => ((k_here; (with_reducible show wpAny _ _ (call (Value.ref 169) [Value.int _ _]) _ _ _); k_dflt (refine' made_K ?h140hF ?h140hN ?h140hX ?h140hT ?h140hd ?h140hu ?_; (case h140hF => k_asm); (case h140hN => k_asm); (case h140hX => k_asm); (case h140hT => k_asm); (case h140hd => (first | exact lt_0 (by assumption) rfl | exact lt_1 (by assumption) rfl | exact lt_2 (by assumption) rfl | exact lt_3 (by assumption) rfl | ((try dsimp only); omega))); (case h140hu => (first | exact lt_0 (by assumption) rfl | exact lt_1 (by assumption) rfl | exact lt_2 (by assumption) rfl | exact lt_3 (by assumption) rfl | ((try dsimp only); omega))); k_whole); intro qr' qnv' qh' qtk' qF' qN' qhd'; (try k_sweep))))
  (k_with "compareOp Eq" => ((k_here; k_dflt (refine' eq_same ?h141hN ?h141ha ?h141hb ?h141hhs ?h141hhd ?h141hhu ?_; (case h141hb => assumption); (case h141ha => assumption); (case h141hN => assumption); (case h141hhs => exact fun p hp => List.mem_append_right _ hp); (case h141hhd => exact valD_depth _); (case h141hhu => k_units); k_whole))))
  (k_with "compareOp NotEq bytes bytes" => ((k_here; with_reducible refine ne_oidB ?_)))
  (k_with "compareOp NotEq bool bool" => ((k_here; with_reducible refine ne_weak ?_)))
  (k_with "compareOp NotEq str str" => ((k_here; with_reducible refine ne_text ?_)))
  (k_with "compareOp Is" => ((k_here; k_dflt (refine' wpAny_is_other ?h145ha ?h145hb ?_; (case h145ha => rfl); (case h145hb => intro qe; cases qe); k_whole))))
  (k_with "compareOp IsNot" => ((k_here; k_dflt (refine' wpAny_isNot_other ?h146ha ?h146hb ?_; (case h146ha => rfl); (case h146hb => intro qe; cases qe); k_whole))))
  refine wpAny_call ?_
  k_dflt k_enter
  k_steps
  all_goals
    (with_reducible rename News _ _ _ _ => N9)
    have hs9 := (by assumption : ∀ p ∈ nw, p ∈ _)
    exact hret _ _ (by assumption) fun p hp => N9 p (List.mem_append_right _ (hs9 p hp))
end
end Mine
namespace Mine
theorem isL_tup2 {nw : List (Addr × Obj)} {v : Value} {d1 d2 : D} (h : IsL nw v (.tup [d1, d2])) : ∃ a v1 v2 k, v = .ref a ∧ (a, ({ cls := .type "tuple", data := .seq #[v1, v2] k } : Obj)) ∈ nw ∧ IsL nw v1 d1 ∧ IsL nw v2 d2 := by
  cases h with
  | tup h1 h2 => cases h2 with
    | cons a b => cases b with
      | cons c d => cases d; exact ⟨_, _, _, _, rfl, h1, a, c⟩
theorem isL_tup3 {nw : List (Addr × Obj)} {v : Value} {d1 d2 d3 : D} (h : IsL nw v (.tup [d1, d2, d3])) : ∃ a v1 v2 v3 k, v = .ref a ∧ (a, ({ cls := .type "tuple", data := .seq #[v1, v2, v3] k } : Obj)) ∈ nw ∧ IsL nw v1 d1 ∧ IsL nw v2 d2 ∧ IsL nw v3 d3 := by
  cases h with
  | tup h1 h2 => cases h2 with
    | cons a b => cases b with
      | cons c d => cases d with
        | cons e f => cases f; exact ⟨_, _, _, _, _, rfl, h1, a, c, e⟩
theorem isL_list2 {nw : List (Addr × Obj)} {v : Value} {d1 d2 : D} (h : IsL nw v (.list [d1, d2])) : ∃ a v1 v2 k, v = .ref a ∧ (a, listOf #[v1, v2] k) ∈ nw ∧ IsL nw v1 d1 ∧ IsL nw v2 d2 := by
  cases h with
  | list h1 h2 => cases h2 with
    | cons a b => cases b with
      | cons c d => cases d; exact ⟨_, _, _, _, rfl, h1, a, c⟩
theorem isL_list1 {nw : List (Addr × Obj)} {v : Value} {d1 : D} (h : IsL nw v (.list [d1])) : ∃ a v1 k, v = .ref a ∧ (a, listOf #[v1] k) ∈ nw ∧ IsL nw v1 d1 := by
  cases h with
  | list h1 h2 => cases h2 with
    | cons a b => cases b; exact ⟨_, _, _, rfl, h1, a⟩
theorem isL_str {nw : List (Addr × Obj)} {v : Value} {x : Str} (h : IsL nw v (.str x)) : ∃ t, v = .str x t := by cases h; exact ⟨_, rfl⟩
theorem isL_oid {nw : List (Addr × Obj)} {v : Value} {n : Int} (h : IsL nw v (oidD n)) : (∃ t, v = .str (oidS n) t) ∨ ∃ t, v = .bytes (oidB n) t := by
  unfold oidD at h
  split at h
  · exact .inl (isL_str h)
  · cases h; exact .inr ⟨_, rfl⟩
theorem eq_str_ne {prog : Program} {w : World} {A : Around} {s : Shared} {E : Value → Shared → Prop} {x y : Str} {t u : Tok} {Q : Value → Shared → Prop} (hne : x ≠ y) (h : Q (.bool false) s) : wpAny (model prog w) A (compareOp .Eq (.str x t) (.str y u)) Q E s := by
  have e : (x == y) = false := by simpa using hne
  exact PySem.SeqAt.RcAt.str_str x t y u prog w E Q (by rw [e]; exact h)
/-- the shapes of data, as the class asks of them -/
inductive DataC (nw : List (Addr × Obj)) (n : Int) : Value → Prop
  | tup {a : Addr} {v1 v2 : Value} {k : Nat} : hasKl n = true → (a, ({ cls := .type "tuple", data := .seq #[v1, v2] k } : Obj)) ∈ nw → IsL nw v2 (nmD n) → DataC nw n (.ref a)
  | str {x : Str} {t : Tok} : hasKl n = false → DataC nw n (.str x t)
  | bytes {x : Array UInt8} {t : Tok} : hasKl n = false → DataC nw n (.bytes x t)
  | m {l a : Addr} {t : Tok} {v1 v2 v3 : Value} {k k' : Nat} : hasKl n = true → (l, listOf #[.str "m" t, .ref a] k) ∈ nw → (a, ({ cls := .type "tuple", data := .seq #[v1, v2, v3] k' } : Obj)) ∈ nw → IsL nw v3 (nmD n) → DataC nw n (.ref l)
  | other {l : Addr} {t : Tok} {x : Str} {v2 : Value} {k : Nat} : hasKl n = false → x ≠ "m" → (l, listOf #[.str x t, v2] k) ∈ nw → DataC nw n (.ref l)
  | lone {l : Addr} {t : Tok} {k : Nat} : hasKl n = false → (l, listOf #[.str (oidS n) t] k) ∈ nw → DataC nw n (.ref l)
  | loneB {l : Addr} {t : Tok} {k : Nat} : hasKl n = false → (l, listOf #[.bytes (oidB n) t] k) ∈ nw → DataC nw n (.ref l)
theorem kl_yes {n : Int} (h : n.fmod 8 = 0 ∨ n.fmod 8 = 1 ∨ n.fmod 8 = 4) : hasKl n = true := by
  rcases h with h | h | h <;> (unfold hasKl; rw [h]; rfl)
theorem kl_no {n : Int} (h0 : n.fmod 8 ≠ 0) (h1 : n.fmod 8 ≠ 1) (h4 : n.fmod 8 ≠ 4) : hasKl n = false := by
  simp [hasKl, Ne.symm h0, Ne.symm h1, Ne.symm h4]
theorem kl_23 {n : Int} (h2 : 2 ≤ n.fmod 8) (h4 : n.fmod 8 < 4) : hasKl n = false := kl_no (fun e => no_le e h2 rfl) (fun e => no_le e h2 rfl) (fun e => no_lt e h4 rfl)
theorem kl_at {n : Int} (k : Int) (h : n.fmod 8 = k) (e : ([0, 1, 4].any fun x => x == k) = false) : hasKl n = false := by
  unfold hasKl; rw [h]; exact e
theorem dataC {nw : List (Addr × Obj)} {n : Int} {v : Value} (h : IsL nw v (valD n)) : DataC nw n v := by
  have f0 := fm_ge n (b := 8) rfl
  have f8 := fm_lt n (b := 8) rfl
  by_cases h2 : n.fmod 8 < 2
  · rw [valD_lt2 h2] at h
    obtain ⟨a, v1, v2, k, rfl, x1, x2, x3⟩ := isL_tup2 h
    exact .tup (kl_yes (int014 f0 h2)) x1 x3
  by_cases h4 : n.fmod 8 < 4
  · rw [valD_lt4 (Int.not_lt.mp h2) h4] at h
    have hk := kl_23 (Int.not_lt.mp h2) h4
    rcases isL_oid h with ⟨t, rfl⟩ | ⟨t, rfl⟩
    · exact .str hk
    · exact .bytes hk
  rcases int48 (Int.not_lt.mp h4) f8 with hf | hf | hf | hf
  · rw [valD_4 hf] at h
    obtain ⟨l, v1, v2, k, rfl, x1, x2, x3⟩ := isL_list2 h
    obtain ⟨t, rfl⟩ := isL_str x2
    obtain ⟨a, w1, w2, w3, k', rfl, y1, y2, y3, y4⟩ := isL_tup3 x3
    exact .m (kl_yes (.inr (.inr hf))) x1 y1 y4
  · rw [valD_5 hf] at h
    obtain ⟨l, v1, v2, k, rfl, x1, x2, x3⟩ := isL_list2 h
    obtain ⟨t, rfl⟩ := isL_str x2
    exact .other (kl_at 5 hf rfl) (by decide) x1
  · rw [valD_6 hf] at h
    obtain ⟨l, v1, v2, k, rfl, x1, x2, x3⟩ := isL_list2 h
    obtain ⟨t, rfl⟩ := isL_str x2
    exact .other (kl_at 6 hf rfl) (by decide) x1
  · rw [valD_7 hf] at h
    obtain ⟨l, v1, k, rfl, x1, x2⟩ := isL_list1 h
    rcases isL_oid x2 with ⟨t, rfl⟩ | ⟨t, rfl⟩
    · exact .lone (kl_at 7 hf rfl) x1
    · exact .loneB (kl_at 7 hf rfl) x1
section
variable {w : World} {p : Program} {loose : List Str} {mean : ExcName → Option Value} {mg mb : Str → Option Value} {dp un : Nat} {gd : Option (List Code)} {fr : Option (List Env)} {s : Shared} {Q E : Value → Shared → Prop} {n : Int} {t u : Tok} {x : Addr}
theorem klass_K {h₀ : Heap} {L : Addr} {m : Str → Option Value} {nw : List (Addr × Obj)} {b : Bool} (F : Fr h₀ L s.heap m) (N : News h₀ L s.heap nw) (X : (hd.heap_1 w.params).In h₀) (T : Top p loose mean mg mb h₀) (hdp : dp < 670) (hun : un < 170) (R : RefN nw n x)
    (hret : ∀ kv h' tk, Fr h₀ L h' m → News h₀ L h' nw → (hasKl n = true ∧ IsL nw kv (nmD n)) ∨ (hasKl n = false ∧ kv = .none) → Q kv { s with heap := h', toks := tk }) :
    wpAny (model PR w) (tA dp un gd fr) (getAttr (.ref x) "klass" b) Q E s := by
  k_with_none
  (k_with "ktr_room" => ((first | k_dflt (exact lt_0 (by assumption) rfl) | k_dflt (exact lt_1 (by assumption) rfl) | ((simp only [depth_under_make, depth_under_kw, depth_in1, depth_deeper, depth_caller, recursionLimit] at *); omega))))
  (k_with "k_room" => ((first | k_dflt (exact lt_0 (by assumption) rfl) | k_dflt (exact lt_1 (by assumption) rfl) | ((simp only [depth_under_make, depth_under_kw, depth_in1, depth_deeper, depth_caller, recursionLimit] at *); omega))))
  (k_with "k_units" => ((first | k_dflt (exact lt_0 (by assumption) rfl) | k_dflt (exact lt_1 (by assumption) rfl) | k_dflt (exact lt_2 (by assumption) rfl) | k_dflt (exact lt_3 (by assumption) rfl) | ((have qhcL9 := cLine_is); (simp only [units_in1, units_deeper, Around.mark_units, units_caller, cLine] at *); omega))))
  (k_with "execs cons" => (((first | (with_reducible show wpAny _ _ _ _ _ (Shared.mk _ _ _ (_ + 1) _)) | (with_reducible show wpAny _ _ _ _ _ (Shared.mk _ _ _ (Shared.toks (Shared.mk _ _ _ _ _)) _))); refine tok_gen (fun tk => ?_))))
  (k_with "k_enter" => ((refine' code_defN ?h151hk2 ?h151hk3 ?h151hk4 ?h151hk5 ?h151hk6 ?h151hk7 ?h151hk8 ?h151hk9 ?h151hkB ?_ ?h151hc2 ?h151hc3 ?h151hc4 ?h151hc5; (case h151hk2 => k_asm); (case h151hk3 => k_asm); (case h151hk4 => k_asm); (case h151hk5 => k_asm); (case h151hk6 => k_is); (case h151hk7 => k_is); (case h151hk8 => k_room); (case h151hk9 => first | exact BindsTo.of_eq rfl | exact binds_K (by k_in) rfl (by k_is) rfl rfl rfl | fail "k_enter: no rule for these arguments"); (case h151hc5 => decide); (case h151hkB => exact locs rfl); (case h151hc2 => exact rfl); (case h151hc3 => exact rfl); (case h151hc4 => exact rfl); k_whole; intro qg' qL' qh' qFG' qF' qN' qX' qT'; (try dsimp only); (try k_fold))))
  (k_with "k_handed" => (exact IsL.handed (by assumption)))
  (k_with "k_mem" => (assumption))
  (k_with "getAttr ref" => ((k_here; (with_reducible show wpAny _ _ (getAttr (Value.ref _) ("data" : Str) _) _ _ _); k_dflt (refine' ref_data ?h154hk1 ?h154hk2 ?h154hk3 ?h154hk4 ?_; (case h154hk1 => k_asm); (case h154hk2 => k_asm); (case h154hk3 => k_asm); (case h154hk4 => assumption); k_whole); intro qv' qk' qhv'; k_dflt ((have qhq' := dataC qhv'); cases qhq'))))
  (k_with "subscriptTail" => ((k_here; (with_reducible show wpAny _ _ (subscriptTail _ _ (Value.ref _) (Value.int _ _)) _ _ _); k_dflt (refine' itemL ?h155hk1 ?h155hk2 ?h155hk3 ?h155hk4 ?h155hk5 ?_ ?h155hk6; (case h155hk1 => k_asm); (case h155hk2 => assumption); (case h155hk3 => decide); (case h155hk4 => decide); (case h155hk5 => rfl); (case h155hk6 => with_unfolding_all rfl); k_whole))))
  (k_with "compareOp Eq str str" => ((with_reducible refine eq_str_ne (by assumption) ?_)))
  (k_with "compareOp Eq bytes str" => (refine eq_bytes_str ?_))
  (k_with "compareOp Eq str str" => (((with_reducible show wpAny _ _ (compareOp CmpOp.Eq (Value.str (oidS _) _) _) _ _ _); refine eq_oid_str (by decide) ?_)))
  obtain ⟨dx, ex, kx, tx, hx1, hx2, hx3⟩ := id R
  k_dflt (refine' get_prop ?k1 ?k2 ?k3 ?k4 ?k5 ?k6 ?k7 ?k8 ?k9 ?_; (case k1 => k_asm); (case k2 => k_asm); (case k3 => k_inst); (case k4 => k_is); (case k5 => k_is); (case k6 => k_is); (case k7 => k_is); (case k8 => k_is); (case k9 => k_is); k_whole)
  k_dflt k_enter
  k_steps
  all_goals first
    | exact hret _ _ _ (by assumption) (by assumption) (.inr ⟨by assumption, rfl⟩)
    | (refine handed_on (IsL.handed (by assumption)) ?_; exact hret _ _ _ (by assumption) (by assumption) (.inl ⟨by assumption, by assumption⟩))
end
section
variable {w : World} {p : Program} {loose : List Str} {mean : ExcName → Option Value} {mg mb : Str → Option Value} {dp un : Nat} {gd : Option (List Code)} {fr : Option (List Env)} {s : Shared} {Q E : Value → Shared → Prop} {n : Int} {t u : Tok} {x : Addr}
theorem klass_t {h₀ : Heap} {L : Addr} {m : Str → Option Value} {nw : List (Addr × Obj)} {b : Bool} (hk : hasKl n = true) (F : Fr h₀ L s.heap m) (N : News h₀ L s.heap nw) (X : (hd.heap_1 w.params).In h₀) (T : Top p loose mean mg mb h₀) (hdp : dp < 670) (hun : un < 170) (R : RefN nw n x)
    (hret : ∀ kv h' tk, Fr h₀ L h' m → News h₀ L h' nw → IsL nw kv (nmD n) → Q kv { s with heap := h', toks := tk }) :
    wpAny (model PR w) (tA dp un gd fr) (getAttr (.ref x) "klass" b) Q E s :=
  klass_K F N X T hdp hun R fun kv h' tk F' N' h => hret kv h' tk F' N' (h.elim And.right fun q => by rw [hk] at q; cases q.1)
theorem klass_f {h₀ : Heap} {L : Addr} {m : Str → Option Value} {nw : List (Addr × Obj)} {b : Bool} (hk : hasKl n = false) (F : Fr h₀ L s.heap m) (N : News h₀ L s.heap nw) (X : (hd.heap_1 w.params).In h₀) (T : Top p loose mean mg mb h₀) (hdp : dp < 670) (hun : un < 170) (R : RefN nw n x)
    (hret : ∀ h' tk, Fr h₀ L h' m → News h₀ L h' nw → Q .none { s with heap := h', toks := tk }) :
    wpAny (model PR w) (tA dp un gd fr) (getAttr (.ref x) "klass" b) Q E s :=
  klass_K F N X T hdp hun R fun kv h' tk F' N' h => by
    rcases h with ⟨q, _⟩ | ⟨_, rfl⟩
    · rw [hk] at q; cases q
    · exact hret h' tk F' N'
end
theorem nmD_depth (n : Int) : (nmD n).depth ≤ 8 := by
  exact Nat.le_of_ble_eq_true rfl
section
variable {w : World} {p : Program} {loose : List Str} {mean : ExcName → Option Value} {mg mb : Str → Option Value} {dp un : Nat} {gd : Option (List Code)} {fr : Option (List Env)} {s : Shared} {Q E : Value → Shared → Prop} {n : Int} {t u : Tok} {x : Addr}
theorem known_K {h₀ : Heap} {L : Addr} {m : Str → Option Value} {nw : List (Addr × Obj)} (F : Fr h₀ L s.heap m) (N : News h₀ L s.heap nw) (X : (hd.heap_1 w.params).In h₀) (T : Top p loose mean mg mb h₀) (hdp : dp < 660) (hun : un < 160) (R : RefN nw n x)
    (hret : ∀ h' tk, Fr h₀ L h' m → News h₀ L h' nw → Q (.bool true) { s with heap := h', toks := tk }) :
    wpAny (model PR w) (tA dp un gd fr) (call (.ref 190) [.ref x, .int n t]) Q E s := by
  k_with_none
  (k_with "ktr_room" => ((first | k_dflt (exact lt_0 (by assumption) rfl) | k_dflt (exact lt_1 (by assumption) rfl) | ((simp only [depth_under_make, depth_under_kw, depth_in1, depth_deeper, depth_caller, recursionLimit] at *); omega))))
  (k_with "k_room" => ((first | k_dflt (exact lt_0 (by assumption) rfl) | k_dflt (exact lt_1 (by assumption) rfl) | ((simp only [depth_under_make, depth_under_kw, depth_in1, depth_deeper, depth_caller, recursionLimit] at *); omega))))
  (k_with "k_units" => ((first | k_dflt (exact lt_0 (by assumption) rfl) | k_dflt (exact lt_1 (by assumption) rfl) | k_dflt (exact lt_2 (by assumption) rfl) | k_dflt (exact lt_3 (by assumption) rfl) | ((have qhcL9 := cLine_is); (simp only [units_in1, units_deeper, Around.mark_units, units_caller, cLine] at *); omega))))
  (k_with "execs cons" => (((first | (with_reducible show wpAny _ _ _ _ _ (Shared.mk _ _ _ (_ + 1) _)) | (with_reducible show wpAny _ _ _ _ _ (Shared.mk _ _ _ (Shared.toks (Shared.mk _ _ _ _ _)) _))); refine tok_gen (fun tk => ?_))))
  (k_with "k_enter" => ((refine' code_defN ?h151hk2 ?h151hk3 ?h151hk4 ?h151hk5 ?h151hk6 ?h151hk7 ?h151hk8 ?h151hk9 ?h151hkB ?_ ?h151hc2 ?h151hc3 ?h151hc4 ?h151hc5; (case h151hk2 => k_asm); (case h151hk3 => k_asm); (case h151hk4 => k_asm); (case h151hk5 => k_asm); (case h151hk6 => k_is); (case h151hk7 => k_is); (case h151hk8 => k_room); (case h151hk9 => first | exact BindsTo.of_eq rfl | exact binds_K (by k_in) rfl (by k_is) rfl rfl rfl | fail "k_enter: no rule for these arguments"); (case h151hc5 => decide); (case h151hkB => exact locs rfl); (case h151hc2 => exact rfl); (case h151hc3 => exact rfl); (case h151hc4 => exact rfl); k_whole; intro qg' qL' qh' qFG' qF' qN' qX' qT'; (try dsimp only); (try k_fold))))
  (k_with "k_handed" => (exact IsL.handed (by assumption)))
  (k_with "k_mem" => (assumption))
  (k_with "getAttr ref" => ((k_here; (with_reducible show wpAny _ _ (getAttr (Value.ref _) ("data" : Str) _) _ _ _); k_dflt (refine' ref_data ?h154hk1 ?h154hk2 ?h154hk3 ?h154hk4 ?_; (case h154hk1 => k_asm); (case h154hk2 => k_asm); (case h154hk3 => k_asm); (case h154hk4 => assumption); k_whole); intro qv' qk' qhv'; k_dflt ((have qhq' := dataC qhv'); cases qhq'))))
  (k_with "subscriptTail" => ((k_here; (with_reducible show wpAny _ _ (subscriptTail _ _ (Value.ref _) (Value.int _ _)) _ _ _); k_dflt (refine' itemL ?h155hk1 ?h155hk2 ?h155hk3 ?h155hk4 ?h155hk5 ?_ ?h155hk6; (case h155hk1 => k_asm); (case h155hk2 => assumption); (case h155hk3 => decide); (case h155hk4 => decide); (case h155hk5 => rfl); (case h155hk6 => with_unfolding_all rfl); k_whole))))
  (k_with "compareOp Eq str str" => ((with_reducible refine eq_str_ne (by assumption) ?_)))
  (k_with "compareOp Eq bytes str" => (refine eq_bytes_str ?_))
  (k_with "compareOp Eq str str" => (((with_reducible show wpAny _ _ (compareOp CmpOp.Eq (Value.str (oidS _) _) _) _ _ _); refine eq_oid_str (by decide) ?_)))
  (k_with "getAttr ref" => ((k_here; (with_reducible show wpAny _ _ (getAttr (Value.ref _) ("klass" : Str) _) _ _ _); k_dflt (refine' klass_t ?h159hh ?h159hF ?h159hN ?h159hX ?h159hT ?h159hd ?h159hu ?h159hR ?_; (case h159hh => assumption); (case h159hF => k_asm); (case h159hN => k_asm); (case h159hX => k_asm); (case h159hT => k_asm); (case h159hd => (first | exact lt_0 (by assumption) rfl | exact lt_1 (by assumption) rfl | exact lt_2 (by assumption) rfl | exact lt_3 (by assumption) rfl | ((try dsimp only); omega))); (case h159hu => (first | exact lt_0 (by assumption) rfl | exact lt_1 (by assumption) rfl | exact lt_2 (by assumption) rfl | exact lt_3 (by assumption) rfl | ((try dsimp only); omega))); (case h159hR => assumption); k_whole); intro qkv' qh' qtk' qF' qN' qhk'; (try k_sweep))))
  (k_with "getAttr ref" => ((k_here; (with_reducible show wpAny _ _ (getAttr (Value.ref _) ("klass" : Str) _) _ _ _); k_dflt (refine' klass_f ?h160hh ?h160hF ?h160hN ?h160hX ?h160hT ?h160hd ?h160hu ?h160hR ?_; (case h160hh => assumption); (case h160hF => k_asm); (case h160hN => k_asm); (case h160hX => k_asm); (case h160hT => k_asm); (case h160hd => (first | exact lt_0 (by assumption) rfl | exact lt_1 (by assumption) rfl | exact lt_2 (by assumption) rfl | exact lt_3 (by assumption) rfl | ((try dsimp only); omega))); (case h160hu => (first | exact lt_0 (by assumption) rfl | exact lt_1 (by assumption) rfl | exact lt_2 (by assumption) rfl | exact lt_3 (by assumption) rfl | ((try dsimp only); omega))); (case h160hR => assumption); k_whole); intro qh' qtk' qF' qN'; (try k_sweep))))
  (k_with "call ref" => ((k_here; (with_reducible show wpAny _ _ (call (Value.ref 162) [Value.int _ _]) _ _ _); k_dflt (refine' due_K ?h161hF ?h161hN ?h161hX ?h161hT ?h161hd ?h161hu ?_; (case h161hF => k_asm); (case h161hN => k_asm); (case h161hX => k_asm); (case h161hT => k_asm); (case h161hd => (first | exact lt_0 (by assumption) rfl | exact lt_1 (by assumption) rfl | exact lt_2 (by assumption) rfl | exact lt_3 (by assumption) rfl | ((try dsimp only); omega))); (case h161hu => (first | exact lt_0 (by assumption) rfl | exact lt_1 (by assumption) rfl | exact lt_2 (by assumption) rfl | exact lt_3 (by assumption) rfl | ((try dsimp only); omega))); k_whole); intro qa' qnw' qh' qtk' qhs' qF' qN' qhd'; (try k_sweep); k_dflt ((have qhR' := RefN.mono (by assumption) qhs'); obtain ⟨qbv', qnv', qt1', qha', qhb', qhc'⟩ := qhd'; (rcases qhc' with ⟨qe', qc', qt2', qt3', qq', qhm'⟩ | ⟨qe', qq'⟩); all_goals subst qq'))))
  (k_with "compareOp Is" => ((k_here; k_dflt (refine' wpAny_is_other ?h162ha ?h162hb ?_; (case h162ha => rfl); (case h162hb => intro qe; cases qe); k_whole))))
  (k_with "compareOp Eq" => ((k_here; k_dflt (refine' eq_same ?h163hN ?h163ha ?h163hb ?h163hhs ?h163hhd ?h163hhu ?_; (case h163ha => assumption); (case h163hb => exact nm_L (by assumption)); (case h163hN => k_asm); (case h163hhs => exact fun p hp => hp); (case h163hhd => exact nmD_depth _); (case h163hhu => k_units); k_whole))))
  refine wpAny_call ?_
  k_dflt k_enter
  k_steps
  all_goals
    (with_reducible rename News _ _ _ _ => N9)
    have hs9 := (by assumption : ∀ p ∈ nw, p ∈ _)
    exact hret _ _ (by assumption) fun p hp => N9 p (hs9 p hp)
end
end Mine
namespace Mine
section
variable {w : World} {p : Program} {loose : List Str} {mean : ExcName → Option Value} {mg mb : Str → Option Value} {dp un : Nat} {gd : Option (List Code)} {fr : Option (List Env)} {s : Shared} {Q E : Value → Shared → Prop} {n : Int}
/-- PersistentReference(value), whatever the value's form -/
theorem pr_any {h₀ base : Heap} {L : Addr} {m : Str → Option Value} {nw mu : List (Addr × Obj)} {A₀ : Around} {outer : List Env} {env : Env} {r : Value} {bad : Bool}
    (B : Below A₀ base outer h₀) (F : Fr h₀ L s.heap m) (N : News h₀ L s.heap (mu ++ nw)) (X : (hd.heap_1 w.params).In h₀) (T : Top p loose mean mg mb h₀) (XB : (hd.heap_1 w.params).In base) (TB : Top p loose mean mg mb base) (D : KtsDicts (outer.filterMap (·.frame)) h₀)
    (hfr : fr = some (env :: outer)) (hef : env.frame = some L) (hck : env.scope.kind = .function) (hdp : dp < 690) (hun : un < 190) (hval : ValA nw n bad mu r)
    (hret : ∀ g' x nw' h' tk', KtsTurn (outer.filterMap (·.frame)) h₀ g' → Fr g' L h' m → News g' L h' nw' → (∀ p ∈ nw, p ∈ nw') → Below A₀ base outer g' → (hd.heap_1 w.params).In g' → Top p loose mean mg mb g' → KtsDicts (outer.filterMap (·.frame)) g' →
      RefN nw' n x → (∀ p ∈ nw, p.1 ≠ x) → Q (.ref x) { s with heap := h', toks := tk' }) :
    wpAny (model PR w) (tA dp un gd fr) (call (.ref 109) [r]) Q E s := by
  rcases hval with hval | ⟨rfl, hf, hb, v, l, a, t1, t2, k, hv, rfl, hl, ha⟩
  · refine pr_K F N X T hdp hun hval fun x dx es k t tl h' tk' F' N' hr hx => ?_
    refine hret h₀ x _ h' tk' KtsTurn.refl F' N' (fun p hp => .tail _ (.tail _ (List.mem_append_right _ hp))) B X T D ⟨dx, es, k, t, .head _, .tail _ (.head _), hr.mono fun p hp => .tail _ (.tail _ hp)⟩ hx
  · rw [List.nil_append] at N
    refine pr6_K B F N X T XB TB D hfr hef hck hdp hun hf hb hv hl ha fun g' x dx es k t h' tk' T' F' N' B' X' P' D' hr hx => ?_
    exact hret g' x _ h' tk' T' F' N' (fun p hp => .tail _ (.tail _ hp)) B' X' P' D' ⟨dx, es, k, t, .head _, .tail _ (.head _), hr.mono fun p hp => .tail _ (.tail _ hp)⟩ hx
end
end Mine
namespace Mine
open Classical
/-- a dict that holds data as keys: its object, by the ledger -/
def DictL (w : World) (nw : List (Addr × Obj)) (o : Obj) (xs : List (D × Addr × Value)) : Prop :=
  o.ExactDict ∧ (∃ es ep, o.data = .dict es ep ∧ es.toList = xs.map (entryOfKey (dKind PR w))) ∧ (∀ x ∈ xs, IsL nw (.ref x.2.1) x.1 ∧ x.1.ok = true ∧ x.1.depth ≤ 8) ∧ (xs.map (·.1)).Nodup
theorem DictL.mono {w : World} {nw nw' : List (Addr × Obj)} {o : Obj} {xs : List (D × Addr × Value)} (h : DictL w nw o xs) (hs : ∀ p ∈ nw, p ∈ nw') : DictL w nw' o xs :=
  ⟨h.1, h.2.1, fun x hx => ⟨(h.2.2.1 x hx).1.mono hs, (h.2.2.1 x hx).2⟩, h.2.2.2⟩
theorem DictL.empty (w : World) (nw : List (Addr × Obj)) : DictL w nw { cls := .type "dict", data := .dict #[] } [] :=
  ⟨⟨rfl, rfl, rfl⟩, ⟨#[], 0, rfl, rfl⟩, fun _ hx => by simp at hx, List.nodup_nil⟩
theorem DictL.at_ {w : World} {nw : List (Addr × Obj)} {o : Obj} {xs : List (D × Addr × Value)} {h₀ h : Heap} {L d : Addr} (x : DictL w nw o xs) (N : News h₀ L h nw) (ho : h.get? d = some o) : h.DictOfH (dKind PR w) d xs := by
  obtain ⟨hc, ⟨es, ep, hd, he⟩, hk, hn⟩ := x
  exact ⟨o, es, ep, ho, hc, hd, he, fun y hy => ⟨(hk y hy).1.to N, (hk y hy).2⟩, hn⟩
section
variable {w : World} {A : Around} {s : Shared} {E : Value → Shared → Prop} {h₀ : Heap} {L d a : Addr} {m : Str → Option Value} {nw nk : List (Addr × Obj)} {o : Obj} {xs : List (D × Addr × Value)} {k : D}
theorem get_L {dflt : Value} {Q : Value → Shared → Prop} (N : News h₀ L s.heap nw) (hk : News h₀ L s.heap nk) (x : DictL w nk o xs) (hm : (d, o) ∈ nw) (hd : (d == sysModules) = false) (ha : IsL nk (.ref a) k) (h1 : k.ok = true) (h2 : k.depth ≤ 8) (hu : A.in1.units + 16 < cLine)
    (h : ∀ tk, Q (((atKey xs k).map (·.2)).getD dflt) { s with toks := tk }) : wpAny (model PR w) A (call (.builtin "dict.get") [.ref d, .ref a, dflt]) Q E s := by
  have H := x.at_ hk (N _ hm).1
  exact call_meetsIn PySem.F.slot_dict_get H.typeIs PySem.F.entry_dict_get (PySem.F.args_dict_get_3 _ _ _) (meetsH_dict_get_default (dKind PR w) d a hd dflt) ⟨hu, k, xs, ⟨ha.to hk, h1, h2⟩, H, h _⟩
theorem in_L {Q : Value → Shared → Prop} (N : News h₀ L s.heap nw) (hk : News h₀ L s.heap nk) (x : DictL w nk o xs) (hm : (d, o) ∈ nw) (hd : (d == sysModules) = false) (ha : IsL nk (.ref a) k) (h1 : k.ok = true) (h2 : k.depth ≤ 8) (hu : A.in1.units + 16 < cLine)
    (h : ∀ tk, Q (.bool (atKey xs k).isSome) { s with toks := tk }) : wpAny (model PR w) A (compareOp .In (.ref a) (.ref d)) Q E s :=
  wpAny_in_heap (knd := dKind PR w) hu ⟨ha.to hk, h1, h2⟩ hd (x.at_ hk (N _ hm).1) (h _)
theorem getItem_L {p : Addr × Value} {Q : Value → Shared → Prop} (N : News h₀ L s.heap nw) (hk : News h₀ L s.heap nk) (x : DictL w nk o xs) (hm : (d, o) ∈ nw) (ha : IsL nk (.ref a) k) (h1 : k.ok = true) (h2 : k.depth ≤ 8) (hu : A.in1.units + 16 < cLine) (hp : atKey xs k = some p)
    (h : ∀ tk, Q p.2 { s with toks := tk }) : wpAny (model PR w) A (getItem (.ref d) (.ref a)) Q E s :=
  wpAny_getItem_heap (knd := dKind PR w) hu ⟨ha.to hk, h1, h2⟩ (x.at_ hk (N _ hm).1) hp (h _)
/-- a new key is stored -/
theorem set_L {v : Value} {Q : Unit → Shared → Prop} {rest : List (Addr × Obj)} (F : Fr h₀ L s.heap m) (N : News h₀ L s.heap ((d, o) :: rest)) (hk : ∀ p ∈ nk, p ∈ rest) (hne : ∀ p ∈ rest, p.1 ≠ d) (x : DictL w nk o xs) (ha : IsL nk (.ref a) k) (h1 : k.ok = true) (h2 : k.depth ≤ 8)
    (hu : A.in1.units + 16 < cLine) (hp : atKey xs k = none) (hz : xs.length ≤ 1000)
    (h : ∀ h' o' tk, Fr h₀ L h' m → News h₀ L h' ((d, o') :: rest) → DictL w nk o' (xs ++ [(k, a, v)]) → Q () { s with heap := h', toks := tk }) : wpAny (model PR w) A (setItem (.ref d) (.ref a) v) Q E s := by
  have hN := N (d, o) (.head _)
  have Nk : News h₀ L s.heap nk := fun p hp => N p (.tail _ (hk p hp))
  refine wpAny_setItem_heap (knd := dKind PR w) hu ⟨ha.to Nk, h1, h2⟩ (x.at_ Nk hN.1) (fun h' hd' hs => ?_) (Nat.le_trans hz (by rw [sizeLine_eq]; decide))
  rw [storedH_new hp] at hd'
  obtain ⟨o', es, ep, ho', hc, hdat, he, hkeys, hn⟩ := hd'
  refine h h' o' _ ⟨F.ns.sameBut hs (Ne.symm hN.2.1), fun b ob e => (hs.2 b (fun q => by rw [q, hN.2.2] at e; cases e)).trans (F.keep b ob e), F.above⟩ (fun p hp => ?_) ⟨hc, ⟨es, ep, hdat, he⟩, fun y hy => ?_, hn⟩
  · rcases List.mem_cons.mp hp with rfl | hp
    · exact ⟨ho', hN.2⟩
    · have q := N p (.tail _ hp)
      exact ⟨(hs.2 p.1 (hne p hp)).trans q.1, q.2⟩
  · rcases List.mem_append.mp hy with hy | hy
    · exact x.2.2.1 y hy
    · rw [List.mem_singleton.mp hy]
      exact ⟨ha, h1, h2⟩
end
end Mine
namespace Mine
open AutoSeq1 (wpAny_loadPart')
def OctAt (b : Array UInt8) (i : Nat) (v : Value) : Prop := ∃ c u, b[i]? = some c ∧ v = .int (c.toNat : Int) u
theorem bytes_len : typeLookup (.type "bytes") "__len__" = pure (some (.builtin "bytes.__len__")) := by rw [typeLookup_type, builtinLookup_eq_fast]; kernel_rfl
section
variable {prog : Program} {w : World} {A : Around} {E : Value → Shared → Prop} {s : Shared}
theorem collect_bytes {Q : List Value → Shared → Prop} (hh : A.handled = none) (x : Array UInt8) (t : Tok) (hn : x.size ≤ sizeLine)
    (hQ : ∀ s' acc, (∀ b o, s.heap.get? b = some o → s'.heap.get? b = some o) → s'.gens = s.gens → s'.drawn = s.drawn → s'.os = s.os → ItemsOf (OctAt x) acc x.size → Q acc.toList s') :
    wpAny (model prog w) A (collect (.bytes x t)) Q E s := by
  unfold collect
  refine wpAny_bind (wpAny_runValue (codeAny_builtin F.entry_proto_collect ?_))
  rw [Around.under_plainId F.plain_proto_collect _]
  show wpAny _ A.in1 (newList [] >>= fun l => again (.builtin "list.__iadd__" ⟨[l, .bytes x t], []⟩)) _ _ s
  refine wpAny_bind (wpAny_newObj_type ?_)
  refine wpAny_pure ⟨plainId_quiet F.plain_list_iadd _, codeAny_builtin F.entry_list_iadd ?_⟩
  rw [Around.under_plainId F.plain_list_iadd _]
  show wpAny _ A.in1 (Builtin.List.listExtendWith (.ref s.heap.objs.size) (.bytes x t) (.ref s.heap.objs.size)) _ _ _
  unfold Builtin.List.listExtendWith
  refine wpAny_bind (wpAny_typeOf (T := "bytes") (v := .bytes x t) rfl ?_)
  have h1 : Builtin.List.listSameRef (.ref s.heap.objs.size) (.bytes x t) = false := rfl
  have h2 : (Value.type "bytes" == Value.type "list") = false := by decide
  have h3 : (Value.type "bytes" == Value.type "tuple") = false := by decide
  simp only [h1, h2, h3, Bool.or_false, Bool.false_eq_true, if_false]
  refine wpAny_bind (KBw.pyIter_bytes ?_)
  refine wpAny_bind (wpAny_holding ?_)
  unfold Builtin.List.listLengthHint
  refine wpAny_bind (wpAny_specialOf (T := "bytes") (v := .bytes x t) rfl bytes_len ?_)
  wp_delta
  refine wpAny_bind (wpAny_isInstance (T := "bytes") (v := .bytes x t) (b := true) rfl (by rw [isSubtype_type]; kernel_rfl) ?_)
  show wpAny _ A.in1 (typeOf (Value.bytes x t) >>= _) _ _ _
  refine wpAny_bind (wpAny_typeOf (T := "bytes") (v := .bytes x t) rfl ?_)
  refine wpAny_pure ?_
  rw [if_neg (by decide)]
  generalize hH : s.heap.push { cls := .type "list", data := .seq ([] : List Value).toArray } = H
  have hHs : H.objs.size = s.heap.objs.size + 1 := by rw [← hH, Heap.size_push]
  have hSf : s.heap.objs.size ∉ [H.objs.size] := fun hm => by rw [List.mem_singleton.mp hm] at hHs; exact absurd hHs (Nat.ne_of_lt (Nat.lt_succ_self _))
  have hS : (H.push { cls := .type "bytes_iterator", data := .fields #[.bytes x t, .int 0 0] }).get? s.heap.objs.size = some { cls := .type "list", data := .seq ([] : List Value).toArray } := Heap.get?_push_of_some _ (hH ▸ Heap.get?_push_size _ rfl)
  have W := KBw.walks (prog := prog) (w := w) (A := A.in1) hh H.objs.size x t
  have hst : KBw.IsBytesIter (H.push { cls := .type "bytes_iterator", data := .fields #[.bytes x t, .int 0 0] }) H.objs.size x t 0 := ⟨_, Heap.get?_push_size _ rfl, rfl, rfl⟩
  refine wpAny_pure ⟨plainId_quiet F.plain_extend_loop _, codeAny_extend_loopS W.toS hn _ hSf _ x.size 0 _ _ _ rfl (Nat.zero_le _) hst hS (ItemsOf.nil _) fun s' acc' c' hm hS' hacc => ?_⟩
  show wpAny _ A (load s.heap.objs.size >>= _) _ _ s'
  refine wpAny_bind (wpAny_load hS' ?_)
  refine wpAny_pure (hQ s' acc' (fun b ob e => hm.heap b ob (fun hb => ?_) (Heap.get?_push_of_some _ (hH ▸ Heap.get?_push_of_some _ e))) hm.gens hm.drawn hm.os hacc)
  have hlt := Heap.lt_size e
  rcases List.mem_cons.mp hb with h | h
  · exact absurd hlt (h ▸ Nat.lt_irrefl _)
  · rw [List.mem_singleton.mp h, hHs] at hlt; exact absurd hlt (Nat.not_lt.mpr (Nat.le_succ _))
end
theorem meets_tuple_bytes (x : Array UInt8) (t : Tok) (hsz : x.size ≤ sizeLine) :
    Meets (Builtin.«tuple.__new__» ⟨[.type "tuple", .bytes x t], []⟩)
      (fun A R s => A.handled = none ∧ ∀ (s' : Shared) (acc : Array Value), (∀ b o, s.heap.get? b = some o → s'.heap.get? b = some o) → s'.gens = s.gens → s'.drawn = s.drawn → s'.os = s.os → ItemsOf (OctAt x) acc x.size →
        R (.ok (.ret (.ref s'.heap.objs.size))) { s' with heap := s'.heap.push { cls := .type "tuple", data := .seq acc } }) :=
  .of_wp fun prog w A R s h => by
    obtain ⟨hh, h⟩ := h
    have hsub := sub_tuple_self
    have hinit := init_tuple_lookup
    have hmh := madeHere_tuple
    have hT : s.TypeIs (.bytes x t) "bytes" := rfl
    have hh1 : A.in1.handled = none := hh
    wp_walk using wpAny_typeOf hT, collect_bytes hh1 x t hsz
    intro s' acc hk hg hd hos hacc
    show wpAny _ _ (Builtin.Tuple.tupleExact acc.toList.toArray >>= fun v => ret v) _ _ _
    unfold Builtin.Tuple.tupleExact
    refine wpAny_bind (wpAny_newObj_type ?_ (show acc.toList.toArray.size ≤ sizeLine by simp only [Array.toArray_toList]; rw [hacc.1]; exact hsz))
    refine wpAny_pure ⟨_, rfl, ?_⟩
    have e : acc.toList.toArray = acc := by simp
    rw [e]
    exact h s' acc hk hg hd hos hacc
section
variable {prog : Program} {w : World} {A : Around} {E : Value → Shared → Prop} {s : Shared}
theorem tuple_bytes {Q : Value → Shared → Prop} (hh : A.handled = none) (x : Array UInt8) (t : Tok) (hsz : x.size ≤ sizeLine)
    (h : ∀ (h' : Heap) (tk : Nat) (acc : Array Value), (∀ b o, s.heap.get? b = some o → h'.get? b = some o) → ItemsOf (OctAt x) acc x.size → Q (.ref h'.objs.size) { s with heap := h'.push { cls := .type "tuple", data := .seq acc }, toks := tk }) :
    wpAny (model prog w) A (call (.type "tuple") [.bytes x t]) Q E s := by
  refine callType_new F.called_tuple (by decide) (F.typeCall_tuple_1 _) (F.newCall_tuple_1 _) (fun obj => F.args_object_init_2 obj _) F.entry_tuple_new
    (meets_tuple_bytes x t hsz) ⟨hh, fun s' acc hk hg hd hos hacc => ⟨⟨_, Heap.get?_push_size _ rfl, rfl⟩, ?_⟩⟩
  obtain ⟨h', g', d', tk', os'⟩ := s'
  have e1 : g' = s.gens := hg
  have e2 : d' = s.drawn := hd
  have e3 : os' = s.os := hos
  subst e1 e2 e3
  exact h h' tk' acc hk hacc
end
end Mine
namespace Mine
theorem isLs_of_get {nw : List (Addr × Obj)} : ∀ {vs : List Value} {ds : List D}, vs.length = ds.length → (∀ (j : Nat) (v : Value) (d : D), vs[j]? = some v → ds[j]? = some d → IsL nw v d) → IsLs nw vs ds
  | [], [], _, _ => .nil
  | [], _ :: _, h, _ => by simp at h
  | _ :: _, [], h, _ => by simp at h
  | v :: vs, d :: ds, h, k => .cons (k 0 v d rfl rfl) (isLs_of_get (by simpa using h) fun j v' d' a b => k (j + 1) v' d' (by simpa using a) (by simpa using b))
theorem IsLs.length {nw : List (Addr × Obj)} : ∀ {vs : List Value} {ds : List D}, IsLs nw vs ds → vs.length = ds.length
  | _, _, .nil => rfl
  | _, _, .cons _ r => by simp [IsLs.length r]
/-- the datum of tuple(value), by its form -/
noncomputable def tkF (f x : Int) (s : Str) (o nm : D) (S : Str) (B : Array UInt8) : D :=
  if f < 2 then .tup [o, nm]
  else if f < 4 then (if x = 1 then .tup (S.cps.toList.map fun c => .str ⟨#[c]⟩) else .tup (B.toList.map fun c => .int (c.toNat : Int)))
  else if f = 4 then .tup [.str "m", .tup [.str s, o, nm]]
  else if f = 5 then .tup [.str "n", .tup [.str s, o]]
  else if f = 6 then .tup [.str "w", .tup (if s = Str.ofString "" then [o] else [o, .str s])]
  else .tup [o]
noncomputable def tkD (n : Int) : D := tkF (n.fmod 8) ((n.fdiv 144).fmod 2) (baseS n) (oidD n) (nmD n) (oidS n) (oidB n)
theorem tkD_lt2 {n : Int} (h : n.fmod 8 < 2) : tkD n = .tup [oidD n, nmD n] := if_pos h
theorem tkD_lt4 {n : Int} (h2 : 2 ≤ n.fmod 8) (h : n.fmod 8 < 4) : tkD n = if (n.fdiv 144).fmod 2 = 1 then .tup ((oidS n).cps.toList.map fun c => .str ⟨#[c]⟩) else .tup ((oidB n).toList.map fun c => .int (c.toNat : Int)) := (if_neg (fun e => no_in h2 e rfl)).trans (if_pos h)
theorem tkD_4 {n : Int} (h : n.fmod 8 = 4) : tkD n = .tup [.str "m", .tup [.str (baseS n), oidD n, nmD n]] := congrArg (fun f => tkF f ((n.fdiv 144).fmod 2) (baseS n) (oidD n) (nmD n) (oidS n) (oidB n)) h
theorem tkD_5 {n : Int} (h : n.fmod 8 = 5) : tkD n = .tup [.str "n", .tup [.str (baseS n), oidD n]] := congrArg (fun f => tkF f ((n.fdiv 144).fmod 2) (baseS n) (oidD n) (nmD n) (oidS n) (oidB n)) h
theorem tkD_6 {n : Int} (h : n.fmod 8 = 6) : tkD n = .tup [.str "w", .tup (if baseS n = Str.ofString "" then [oidD n] else [oidD n, .str (baseS n)])] := congrArg (fun f => tkF f ((n.fdiv 144).fmod 2) (baseS n) (oidD n) (nmD n) (oidS n) (oidB n)) h
theorem tkD_7 {n : Int} (h : n.fmod 8 = 7) : tkD n = .tup [oidD n] := congrArg (fun f => tkF f ((n.fdiv 144).fmod 2) (baseS n) (oidD n) (nmD n) (oidS n) (oidB n)) h
/-- a form's datum, by the datum of its identity -/
theorem tkD_by {P : D → Prop} (n : Int) (s : ∀ x : Str, P (.tup (x.cps.toList.map fun c => .str ⟨#[c]⟩))) (b : ∀ x : Array UInt8, P (.tup (x.toList.map fun c => .int (c.toNat : Int))))
    (h : ∀ f B, (B = D.str (oidS n) ∨ B = D.bytes (oidB n)) → ¬ (2 ≤ f ∧ f < 4) → P (tkF f 0 (baseS n) B (nmD n) (oidS n) (oidB n))) : P (tkD n) := by
  by_cases h24 : 2 ≤ n.fmod 8 ∧ n.fmod 8 < 4
  · rw [tkD_lt4 h24.1 h24.2]
    split
    · exact s _
    · exact b _
  · have e : tkD n = tkF (n.fmod 8) 0 (baseS n) (oidD n) (nmD n) (oidS n) (oidB n) := by
      by_cases h2 : n.fmod 8 < 2
      · exact (tkD_lt2 h2).trans (if_pos h2).symm
      · have h4 : ¬ n.fmod 8 < 4 := fun q => h24 ⟨Int.not_lt.mp h2, q⟩
        exact ((if_neg h2).trans (if_neg h4)).trans ((if_neg h2).trans (if_neg h4)).symm
    rw [e]
    refine h _ _ ?_ h24
    unfold oidD; split
    · exact .inl rfl
    · exact .inr rfl
theorem valD_tk {n : Int} (h : ¬ (2 ≤ n.fmod 8 ∧ n.fmod 8 < 4)) : (n.fmod 8 < 2 ∧ ∃ ds, valD n = .tup ds ∧ tkD n = .tup ds) ∨ (¬ n.fmod 8 < 2 ∧ ∃ ds, valD n = .list ds ∧ tkD n = .tup ds ∧ ds.length ≤ 2) := by
  by_cases h2 : n.fmod 8 < 2
  · exact .inl ⟨h2, _, if_pos h2, if_pos h2⟩
  · refine .inr ⟨h2, ?_⟩
    have h4 : ¬ n.fmod 8 < 4 := fun e => h ⟨Int.not_lt.mp h2, e⟩
    rcases int48 (Int.not_lt.mp h4) (fm_lt n rfl) with q | q | q | q
    · exact ⟨_, valD_4 q, tkD_4 q, Nat.le_of_ble_eq_true rfl⟩
    · exact ⟨_, valD_5 q, tkD_5 q, Nat.le_of_ble_eq_true rfl⟩
    · exact ⟨_, valD_6 q, tkD_6 q, Nat.le_of_ble_eq_true rfl⟩
    · exact ⟨_, valD_7 q, tkD_7 q, Nat.le_of_ble_eq_true rfl⟩
theorem oidB_size (n : Int) : (oidB n).size ≤ sizeLine := by
  have : (oidB n).size = 8 := by
    unfold oidB byteArr octs
    split
    · rfl
    · split <;> simp
  rw [this, sizeLine_eq]; decide
theorem oidS_fit (n : Int) : (oidS n).cps.size ≤ sizeLine := by rw [oidS_size, sizeLine_eq]; decide
section
variable {w : World} {A : Around} {s : Shared} {E : Value → Shared → Prop} {h₀ : Heap} {L : Addr} {m : Str → Option Value} {nw nl : List (Addr × Obj)} {n : Int}
theorem tuple_L {v : Value} {Q : Value → Shared → Prop} (hh : A.handled = none) (F : Fr h₀ L s.heap m) (N : News h₀ L s.heap nl) (hs : ∀ p ∈ nw, p ∈ nl) (hv : IsL nw v (valD n))
    (hret : ∀ a ks h' tk, Fr h₀ L h' m → News h₀ L h' (ks ++ nl) → IsL (ks ++ nw) (.ref a) (tkD n) → (∀ p ∈ ks, p.2.cls = .type "tuple") → Q (.ref a) { s with heap := h', toks := tk }) : wpAny (model PR w) A (call (.type "tuple") [v]) Q E s := by
  by_cases h24 : 2 ≤ n.fmod 8 ∧ n.fmod 8 < 4
  · have e2 : ¬ n.fmod 8 < 2 := fun e => no_in h24.1 e rfl
    rw [valD_lt4 h24.1 h24.2] at hv
    by_cases hx : (n.fdiv 144).fmod 2 = 1
    · rw [oidD, if_pos hx] at hv
      obtain ⟨t, rfl⟩ := isL_str hv
      refine call_tuple_str (hsz := oidS_fit n) hh (oidS n) t fun h' tk acc hk hacc => ?_
      have F' : Fr h₀ L h' m := F.keeps hk
      have N' : News h₀ L h' nl := fun p hp => ⟨hk _ _ (N p hp).1, (N p hp).2⟩
      refine hret _ [(h'.objs.size, _)] _ _ (F'.push _) (N'.push F' _) ?_ (fun p hp => by rw [List.mem_singleton.mp hp])
      rw [tkD_lt4 h24.1 h24.2, if_pos hx]
      have e : acc = acc.toList.toArray := by simp
      rw [e]
      refine .tup (List.Mem.head _) (isLs_of_get (by simp [hacc.1]) fun j v d a b => ?_)
      obtain ⟨c, u, hc, rfl⟩ := hacc.2 j v (by simpa using a)
      simp only [List.getElem?_map, Array.getElem?_toList, hc, Option.map_some, Option.some.injEq] at b
      subst b
      exact .str _ _
    · rw [oidD, if_neg hx] at hv
      cases hv with
      | bytes b t =>
        refine tuple_bytes hh (oidB n) t (oidB_size n) fun h' tk acc hk hacc => ?_
        have F' : Fr h₀ L h' m := F.keeps hk
        have N' : News h₀ L h' nl := fun p hp => ⟨hk _ _ (N p hp).1, (N p hp).2⟩
        refine hret _ [(h'.objs.size, _)] _ _ (F'.push _) (N'.push F' _) ?_ (fun p hp => by rw [List.mem_singleton.mp hp])
        rw [tkD_lt4 h24.1 h24.2, if_neg hx]
        have e : acc = acc.toList.toArray := by simp
        rw [e]
        refine .tup (List.Mem.head _) (isLs_of_get (by simp [hacc.1]) fun j v d a b => ?_)
        obtain ⟨c, u, hc, rfl⟩ := hacc.2 j v (by simpa using a)
        simp only [List.getElem?_map, Array.getElem?_toList, hc, Option.map_some, Option.some.injEq] at b
        subst b
        exact .int _ _
  · rcases valD_tk h24 with ⟨_, ds, e1, e2⟩ | ⟨_, ds, e1, e2, e3⟩
    · rw [e1] at hv
      cases hv with
      | @tup a vs ds k hm hl =>
        refine call_tuple_tup (items := vs.toArray) ⟨_, (N _ (hs _ hm)).1, rfl, _, rfl⟩ ?_
        exact hret a [] _ _ F N (by rw [e2]; exact .tup hm hl) (fun p hp => nomatch hp)
    · rw [e1] at hv
      cases hv with
      | @list a vs ds k hm hl =>
        have H : s.heap.IsList a vs.toArray := ⟨_, (N _ (hs _ hm)).1, rfl, _, rfl⟩
        have hz : vs.toArray.size ≤ 16384 := by
          rw [List.size_toArray, hl.length]
          exact le_0 e3 rfl
        refine kde_tupleOf F N H hz rfl fun D h' F' N' _ => ?_
        exact hret D [(D, _)] _ _ F' N' (by rw [e2]; exact .tup (List.Mem.head _) (hl.mono fun p hp => .tail _ hp)) (fun p hp => by rw [List.mem_singleton.mp hp])
end
end Mine
namespace Mine
open Classical
/-- the kinds of objects that facts speak of -/
def GoodO (o : Obj) : Prop := (o.cls = .type "tuple" ∧ ∃ vs n, o.data = .seq vs n) ∨ (∃ C dx, o = instObj C dx) ∨ (∃ es k v, o = dictOf es k ∧ getL "oid" es = some (some v)) ∨ (∃ v vs k, o = listOf (v :: vs).toArray k ∧ ((∃ x t, v = .str x t ∧ x ≠ Str.ofString "refused") ∨ ∃ x t, v = .bytes x t))
noncomputable def good (l : List (Addr × Obj)) : List (Addr × Obj) := l.filter fun p => decide (GoodO p.2)
theorem good_mem {l : List (Addr × Obj)} {p : Addr × Obj} (h : p ∈ l) (g : GoodO p.2) : p ∈ good l := List.mem_filter.mpr ⟨h, decide_eq_true g⟩
theorem good_of {l : List (Addr × Obj)} {p : Addr × Obj} (h : p ∈ good l) : p ∈ l ∧ GoodO p.2 := let q := List.mem_filter.mp h; ⟨q.1, of_decide_eq_true q.2⟩
noncomputable def D.txt : D → Bool := @D.rec (fun _ => Bool) (fun _ => Bool) false (fun _ => false) (fun _ => false) (fun x => decide (x ≠ Str.ofString "refused")) (fun _ => true) (fun _ _ => false) (fun _ _ => false) false (fun _ _ _ _ => false)
noncomputable def D.txt1 : List D → Bool := @List.rec D (fun _ => Bool) false (fun d _ _ => d.txt)
noncomputable def D.lok : D → Bool := @D.rec (fun _ => Bool) (fun _ => Bool) true (fun _ => true) (fun _ => true) (fun _ => true) (fun _ => true) (fun _ i => i) (fun ds i => D.txt1 ds && i) true (fun _ _ a b => a && b)
noncomputable def D.loks : List D → Bool := @D.rec_1 (fun _ => Bool) (fun _ => Bool) true (fun _ => true) (fun _ => true) (fun _ => true) (fun _ => true) (fun _ i => i) (fun ds i => D.txt1 ds && i) true (fun _ _ a b => a && b)
theorem IsL.first {nw : List (Addr × Obj)} {v : Value} {d : D} (a : IsL nw v d) (h : d.txt = true) : (∃ x t, v = .str x t ∧ x ≠ Str.ofString "refused") ∨ ∃ x t, v = .bytes x t := by
  cases a with
  | str x t => exact .inl ⟨_, _, rfl, of_decide_eq_true h⟩
  | bytes => exact .inr ⟨_, _, rfl⟩
  | none => cases h
  | int => cases h
  | tup => cases h
  | list => cases h
theorem IsL.good {nw : List (Addr × Obj)} {v : Value} {d : D} (x : IsL nw v d) : d.lok = true → IsL (Mine.good nw) v d :=
  IsL.rec (motive_1 := fun v d _ => d.lok = true → IsL (Mine.good nw) v d) (motive_2 := fun vs ds _ => D.loks ds = true → IsLs (Mine.good nw) vs ds) (fun _ => .none) (fun i t _ => .int i t) (fun x t _ => .str x t) (fun b t _ => .bytes b t)
    (fun x _ ih h => .tup (good_mem x (.inl ⟨rfl, _, _, rfl⟩)) (ih h))
    (fun x r ih h => by
      obtain ⟨h1, h2⟩ := (Bool.and_eq_true _ _).mp h
      cases r with
      | nil => cases h1
      | cons a b => exact .list (good_mem x (.inr (.inr (.inr ⟨_, _, _, rfl, a.first h1⟩)))) (ih h2))
    (fun _ => .nil) (fun _ _ i1 i2 h => let ⟨a, b⟩ := (Bool.and_eq_true _ _).mp h; .cons (i1 a) (i2 b)) x
theorem oidS_not (n : Int) : oidS n ≠ Str.ofString "refused" := fun e => by
  have := oidS_size n
  rw [e, show (Str.ofString "refused").cps.size = 7 by decide] at this
  exact absurd this (by decide)
theorem oidD_or (n : Int) : oidD n = .str (oidS n) ∨ oidD n = .bytes (oidB n) := by
  unfold oidD; split
  · exact .inl rfl
  · exact .inr rfl
theorem valD_lok (n : Int) : (valD n).lok = true := by
  unfold valD valF
  rcases oidD_or n with e | e <;> rw [e] <;> (repeat' split) <;> first | rfl | exact (Bool.and_eq_true _ _).mpr ⟨decide_eq_true (oidS_not n), rfl⟩ | decide
theorem RefN.good {nw : List (Addr × Obj)} {n : Int} {x : Addr} (h : RefN nw n x) : RefN (good nw) n x := by
  obtain ⟨dx, es, k, t, a, b, r⟩ := h
  refine ⟨dx, es, k, t, good_mem a (.inr (.inl ⟨_, _, rfl⟩)), good_mem b (.inr (.inr (.inl ⟨_, _, _, rfl, r.oid⟩))), r.oid, ?_, r.weak, r.dby, r.dbn, r.cmp⟩
  obtain ⟨dv, e, hd⟩ := r.data
  exact ⟨dv, e, hd.good (valD_lok n)⟩
theorem DueN.good {nw : List (Addr × Obj)} {n : Int} {a : Addr} (h : DueN nw n a) : DueN (good nw) n a := by
  obtain ⟨bv, nv, t1, x, b, c⟩ := h
  refine ⟨bv, nv, t1, good_mem x (.inl ⟨rfl, _, _, rfl⟩), b, ?_⟩
  rcases c with ⟨e, c, t1, t2, q, m⟩ | c
  · exact .inl ⟨e, c, t1, t2, q, good_mem m (.inl ⟨rfl, _, _, rfl⟩)⟩
  · exact .inr c
theorem keyD_lok (n : Int) : (keyD n).lok = true := by
  unfold keyD namesD
  split <;> rfl
theorem loks_map {α : Type} (f : α → D) (h : ∀ a, (f a).lok = true) (l : List α) : D.loks (l.map f) = true :=
  List.rec (motive := fun l => D.loks (l.map f) = true) rfl (fun a _ ih => (Bool.and_eq_true _ _).mpr ⟨h a, ih⟩) l
theorem tkD_lok (n : Int) : (tkD n).lok = true := by
  refine tkD_by (P := fun d => d.lok = true) n (fun _ => loks_map _ (fun _ => rfl) _) (fun _ => loks_map _ (fun _ => rfl) _) fun f B hB hf => ?_
  unfold tkF
  rcases hB with rfl | rfl <;> (repeat' split) <;> first | rfl | exact absurd ⟨Int.not_lt.mp (by assumption), by assumption⟩ hf
theorem news_sub {h₀ h : Heap} {L : Addr} {nw nw' : List (Addr × Obj)} (N : News h₀ L h nw') (hs : ∀ p ∈ nw, p ∈ nw') : News h₀ L h nw := fun p hp => N p (hs p hp)
/-- objects of different kinds lie apart -/
theorem good_apart {h₀ h : Heap} {L : Addr} {nw nl : List (Addr × Obj)} {d : Addr} {o : Obj} (N : News h₀ L h nw) (Nl : News h₀ L h nl) (hd : (d, o) ∈ nl) (hb : ¬ GoodO o) : ∀ p ∈ good nw, p.1 ≠ d := fun p hp q => by
  obtain ⟨a, g⟩ := good_of hp
  have e1 := (N p a).1
  have e2 := (Nl _ hd).1
  rw [q, e2] at e1
  have e3 : o = p.2 := Option.some.inj e1
  exact hb (e3 ▸ g)
end Mine
namespace Mine
open Classical
theorem ValA.up {nw nl : List (Addr × Obj)} {n : Int} {v : Value} (h : ValA nw n false [] v) (hs : ∀ p ∈ nw, p ∈ nl) : ValA nl n false [] v := by
  rcases h with h | ⟨_, hf, hb, v', l, a, t1, t2, k, hv, rfl, hl, ha⟩
  · refine .inl ?_
    cases h with
    | f0 hf hv ha hc => exact .f0 hf hv (hs _ ha) (hs _ hc)
    | f2 h2 h4 hv => exact .f2 h2 h4 hv
    | f4 hf hv hl ha hc => exact .f4 hf hv (hs _ hl) (hs _ ha) (hs _ hc)
    | f5 hf hv hl ha => exact .f5 hf hv (hs _ hl) (hs _ ha)
    | f6 hf hb hv hl ha => exact .f6 hf hb hv (hs _ hl) (hs _ ha)
    | f7 hf hv hl => exact .f7 hf hv (hs _ hl)
  · exact .inr ⟨rfl, hf, hb, v', l, a, t1, t2, k, hv, rfl, hs _ hl, hs _ ha⟩
theorem bad_data {hh : Int} {t : Tok} {v : Value} {k : Nat} : ¬ GoodO (dictOf [⟨hh, .str "data" t, v⟩] k) := by
  rintro (⟨h, _⟩ | ⟨C, dx, h⟩ | ⟨es, k', v', h, e⟩ | ⟨v', vs, k', h, _⟩)
  · exact absurd (Value.type.inj h) (by decide)
  · cases h
  · have e1 := congrArg Obj.data h
    injection e1 with e1 e2
    have e3 : es = [⟨hh, .str "data" t, v⟩] := by
      have := congrArg Array.toList e1
      simpa using this.symm
    subst e3
    rw [getL_next (by decide)] at e
    cases e
  · exact absurd (Value.type.inj (congrArg Obj.cls h)) (by decide)
theorem bad_dictL {w : World} {nw : List (Addr × Obj)} {o : Obj} {xs : List (D × Addr × Value)} (x : DictL w nw o xs) : ¬ GoodO o := by
  obtain ⟨hc, ⟨es, ep, hd, he⟩, _⟩ := x
  rintro (⟨h, _⟩ | ⟨C, dx, rfl⟩ | ⟨es', k', v', rfl, e⟩ | ⟨v', vs, k', rfl, _⟩)
  · exact absurd (Value.type.inj (hc.1.symm.trans h)) (by decide)
  · cases hc.1
  · have e1 : Data.dict es'.toArray k' = .dict es ep := hd
    injection e1 with e1 e2
    have e3 : es' = xs.map (entryOfKey (dKind PR w)) := by rw [← he, ← e1]
    subst e3
    rw [getL_eq] at e
    have : (xs.map (entryOfKey (dKind PR w))).find? (·.key.isStr "oid") = none := by
      rw [List.find?_eq_none]
      intro y hy
      obtain ⟨z, _, rfl⟩ := List.mem_map.mp hy
      simp [entryOfKey, Value.isStr]
    rw [this] at e
    simp only [Option.map_none] at e
    split at e <;> cases e
  · exact absurd (Value.type.inj (hc.1 : Value.type "list" = _)) (by decide)
section
variable {w : World} {p : Program} {loose : List Str} {mean : ExcName → Option Value} {mg mb : Str → Option Value} {dp un : Nat} {gd : Option (List Code)} {fr : Option (List Env)} {s : Shared} {Q E : Value → Shared → Prop} {n : Int}
/-- PersistentReference(value) in the frame of persistent_load -/
theorem pr_L2 {h₀ base : Heap} {L : Addr} {m : Str → Option Value} {nw nl : List (Addr × Obj)} {A₀ : Around} {outer : List Env} {env : Env} {r : Value} {q1 q2 : Addr × Obj}
    (B : Below A₀ base outer h₀) (F : Fr h₀ L s.heap m) (N : News h₀ L s.heap (q1 :: q2 :: nl)) (X : (hd.heap_1 w.params).In h₀) (T : Top p loose mean mg mb h₀) (XB : (hd.heap_1 w.params).In base) (TB : Top p loose mean mg mb base) (D : KtsDicts (outer.filterMap (·.frame)) h₀)
    (hfr : fr = some (env :: outer)) (hef : env.frame = some L) (hck : env.scope.kind = .function) (hdp : dp < 690) (hun : un < 190) (hval : ValA nw n false [] r) (hs : ∀ p ∈ nw, p ∈ nl) (b1 : ¬ GoodO q1.2) (b2 : ¬ GoodO q2.2)
    (hret : ∀ g' x kn h' tk', KtsTurn (outer.filterMap (·.frame)) h₀ g' → Fr g' L h' m → News g' L h' (q1 :: q2 :: (kn ++ nl)) → Below A₀ base outer g' → (hd.heap_1 w.params).In g' → Top p loose mean mg mb g' → KtsDicts (outer.filterMap (·.frame)) g' →
      RefN kn n x → (∀ p ∈ kn, p.1 ≠ q1.1) → (∀ p ∈ kn, p.1 ≠ q2.1) → (∀ p ∈ q1 :: q2 :: nl, p.1 ≠ x) → Q (.ref x) { s with heap := h', toks := tk' }) :
    wpAny (model PR w) (tA dp un gd fr) (call (.ref 109) [r]) Q E s := by
  refine pr_any (mu := []) B F N X T XB TB D hfr hef hck hdp hun (hval.up fun p hp => .tail _ (.tail _ (hs p hp))) fun g' x nw' h' tk' T' F' N' hs' B' X' P' D' R hx => ?_
  refine hret g' x (good nw') h' tk' T' F' (fun p hp => N' p ?_) B' X' P' D' R.good (good_apart N' N' (hs' _ (.head _)) b1) (good_apart N' N' (hs' _ (.tail _ (.head _))) b2) hx
  rcases List.mem_cons.mp hp with rfl | hp
  · exact hs' _ (.head _)
  · rcases List.mem_cons.mp hp with rfl | hp
    · exact hs' _ (.tail _ (.head _))
    · rcases List.mem_append.mp hp with hp | hp
      · exact (good_of hp).1
      · exact hs' _ (.tail _ (.tail _ hp))
end
end Mine
namespace Mine
open Classical
/-- the factory's dicts -/
inductive Fac (w : World) (nw : List (Addr × Obj)) (dfa : Addr) : List (Addr × Obj) → List (D × Addr × Value) → Prop
  | fresh {k : Nat} : Fac w nw dfa [(dfa, dictOf [] k)] []
  | busy {k : Nat} {hh : Int} {t : Tok} {dd : Addr} {o : Obj} {xs : List (D × Addr × Value)} : DictL w nw o xs → @Ne Nat dfa dd → (dd == sysModules) = false → Fac w nw dfa [(dfa, dictOf [⟨hh, .str "data" t, .ref dd⟩] k), (dd, o)] xs
/-- behind the first statement of persistent_load -/
def PreL (w : World) (nw nl : List (Addr × Obj)) (dfa fa : Addr) (v : Value) (xs : List (D × Addr × Value)) (g : Heap) (L : Addr) (s₀ s' : Shared) : Prop :=
  ∃ hh t k dd o m' h' tk', s' = { s₀ with heap := h', toks := tk' } ∧ Fr g L h' m' ∧ News g L h' ((dfa, dictOf [⟨hh, .str "data" t, .ref dd⟩] k) :: (dd, o) :: nl) ∧ DictL w nw o xs ∧ @Ne Nat dfa dd ∧ (dd == sysModules) = false ∧ (∀ p ∈ nl, p.1 ≠ dfa) ∧ (∀ p ∈ nl, p.1 ≠ dd) ∧
    m' "self" = some (.ref fa) ∧ m' "ref" = some v
theorem execs_cut1 {M : Model} {A : Around} {env : Env} {a : Stmt} {r : List Stmt} {Q : Flow → Shared → Prop} {E : Value → Shared → Prop} {s : Shared} (P : Shared → Prop)
    (h1 : wpAny M A (execs [a] env) (fun fl s' => fl = .next ∧ P s') E s) (h2 : ∀ s', P s' → wpAny M A (execs r env) Q E s') : wpAny M A (execs (a :: r) env) Q E s := execs_cut P [a] r h1 h2
section
variable {prog : Program} {w : World} {A : Around} {E : Value → Shared → Prop} {s : Shared} {h₀ : Heap} {L : Addr} {m : Str → Option Value} {nw : List (Addr × Obj)}
theorem newD_L {env : Env} {pos : Pos} {Q : Value → Shared → Prop} (F : Fr h₀ L s.heap m) (N : News h₀ L s.heap nw) (hbig : h₀.NoLimit)
    (k : ∀ d h', Fr h₀ L h' m → News h₀ L h' ((d, { cls := .type "dict", data := .dict #[] }) :: nw) → (∀ p ∈ nw, p.1 < d) → (d == sysModules) = false → Q (.ref d) { s with heap := h' }) : wpAny (model prog w) A (eval (.Dict [] [] pos) env) Q E s :=
  wpAny_Dict_empty (k _ _ (F.push _) (News.push F N _) (fun p hp => Heap.lt_size (N p hp).1) (F.notModules (modules_low hbig)))
end
section
variable {w : World} {A : Around} {E : Value → Shared → Prop} {s : Shared} {h₀ : Heap} {L : Addr} {m : Str → Option Value} {nw nl nk : List (Addr × Obj)} {n : Int} {q1 q2 : Addr × Obj} {d a : Addr} {o : Obj} {xs : List (D × Addr × Value)}
theorem swap2 {ks : List (Addr × Obj)} {h : Heap} (N : News h₀ L h (ks ++ (q1 :: q2 :: nl))) : News h₀ L h (q1 :: q2 :: (ks ++ nl)) := fun p hp => N p (by
  simp only [List.mem_append, List.mem_cons] at hp ⊢
  rcases hp with hp | hp | hp | hp
  · exact .inr (.inl hp)
  · exact .inr (.inr (.inl hp))
  · exact .inl hp
  · exact .inr (.inr (.inr hp)))
theorem tuple_L2 {v : Value} {Q : Value → Shared → Prop} (hv : IsL nw v (valD n)) (hs : ∀ p ∈ nw, p ∈ nl) (hh : A.handled = none) (F : Fr h₀ L s.heap m) (N : News h₀ L s.heap (q1 :: q2 :: nl))
    (hret : ∀ a ks h' tk, Fr h₀ L h' m → News h₀ L h' (q1 :: q2 :: (ks ++ nl)) → IsL (ks ++ nw) (.ref a) (tkD n) → (∀ p ∈ ks, p.2.cls = .type "tuple") → Q (.ref a) { s with heap := h', toks := tk }) : wpAny (model PR w) A (call (.type "tuple") [v]) Q E s :=
  tuple_L hh F N (fun p hp => .tail _ (.tail _ (hs p hp))) hv fun a ks h' tk F' N' k t => hret a ks h' tk F' (swap2 N') k t
theorem getM_L {pl : Sem Bool} {Q : Value × List Value → Shared → Prop} (x : DictL w nk o xs) (N : News h₀ L s.heap nw) (hm : (d, o) ∈ nw) (h : Q (.builtin "dict.get", [.ref d]) s) : wpAny (model PR w) A (getMethod (.ref d) "get" pl) Q E s := by
  have hN := (N _ hm).1
  obtain ⟨hc, ⟨es, ep, hd, he⟩, _⟩ := x
  exact getMethod_builtin (T := "dict") ⟨o, hN, hc.1⟩ PySem.F.plainAttrs_dict PySem.F.slot_dict_get PySem.F.type_dict_get (fun b e => by cases e; exact ⟨o, hN, hc.2.1⟩) h
theorem get_hit {q : Addr} {r : Value} {Q : Value → Shared → Prop} (hat : atKey xs (tkD n) = some (q, r)) (x : DictL w nk o xs) (ha : IsL nw (.ref a) (tkD n)) (N : News h₀ L s.heap nl) (hm : (d, o) ∈ nl) (hd : (d == sysModules) = false) (h1 : ∀ p ∈ nk, p ∈ nl) (h2 : ∀ p ∈ nw, p ∈ nl) (hok : (tkD n).ok = true) (hdp : (tkD n).depth ≤ 8) (hu : A.in1.units + 16 < cLine)
    (h : ∀ tk, Q r { s with toks := tk }) : wpAny (model PR w) A (call (.builtin "dict.get") [.ref d, .ref a, .none]) Q E s :=
  get_L N N (x.mono h1) hm hd (ha.mono h2) hok hdp hu fun tk => by rw [hat]; exact h tk
theorem get_miss {Q : Value → Shared → Prop} (hat : atKey xs (tkD n) = none) (x : DictL w nk o xs) (ha : IsL nw (.ref a) (tkD n)) (N : News h₀ L s.heap nl) (hm : (d, o) ∈ nl) (hd : (d == sysModules) = false) (h1 : ∀ p ∈ nk, p ∈ nl) (h2 : ∀ p ∈ nw, p ∈ nl) (hok : (tkD n).ok = true) (hdp : (tkD n).depth ≤ 8) (hu : A.in1.units + 16 < cLine)
    (h : ∀ tk, Q .none { s with toks := tk }) : wpAny (model PR w) A (call (.builtin "dict.get") [.ref d, .ref a, .none]) Q E s :=
  get_L N N (x.mono h1) hm hd (ha.mono h2) hok hdp hu fun tk => by rw [hat]; exact h tk
end
theorem oks_map {α : Type} (f : α → D) (h : ∀ a, (f a).ok = true) (l : List α) : D.oks (l.map f) = true :=
  List.rec (motive := fun l => D.oks (l.map f) = true) rfl (fun a _ ih => (Bool.and_eq_true _ _).mpr ⟨h a, ih⟩) l
theorem depths_map {α : Type} (f : α → D) (h : ∀ a, (f a).depth = 0) (l : List α) : D.depths (l.map f) ≤ 0 :=
  List.rec (motive := fun l => D.depths (l.map f) ≤ 0) (Nat.le_refl _) (fun a _ ih => Nat.max_le.mpr ⟨Nat.le_of_eq (h a), ih⟩) l
theorem tkD_ok (n : Int) : (tkD n).ok = true := by
  refine tkD_by (P := fun d => d.ok = true) n (fun _ => oks_map _ (fun _ => rfl) _) (fun _ => oks_map _ (fun _ => rfl) _) fun f B hB hf => ?_
  unfold tkF
  rcases hB with rfl | rfl <;> (repeat' split) <;> first | rfl | exact absurd ⟨Int.not_lt.mp (by assumption), by assumption⟩ hf
theorem tkD_depth (n : Int) : (tkD n).depth ≤ 8 := by
  refine tkD_by (P := fun d => d.depth ≤ 8) n (fun _ => Nat.succ_le_succ (Nat.le_trans (depths_map _ (fun _ => rfl) _) (Nat.zero_le 7))) (fun _ => Nat.succ_le_succ (Nat.le_trans (depths_map _ (fun _ => rfl) _) (Nat.zero_le 7))) fun f B hB hf => ?_
  unfold tkF
  rcases hB with rfl | rfl <;> (repeat' split) <;> first | exact Nat.le_of_ble_eq_true rfl | exact absurd ⟨Int.not_lt.mp (by assumption), by assumption⟩ hf
theorem set_L2 {w : World} {A : Around} {E : Value → Shared → Prop} {s : Shared} {h₀ : Heap} {L : Addr} {m : Str → Option Value} {nw nl kn ks : List (Addr × Obj)} {n : Int} {q1 : Addr × Obj} {d a : Addr} {o : Obj} {xs : List (D × Addr × Value)} {v : Value} {Q : Unit → Shared → Prop} (x : DictL w nw o xs) (ha : IsL (ks ++ nw) (.ref a) (tkD n)) (hat : atKey xs (tkD n) = none) (F : Fr h₀ L s.heap m) (N : News h₀ L s.heap (q1 :: (d, o) :: (kn ++ (ks ++ nl)))) (hs : ∀ p ∈ nw, p ∈ nl) (hn1 : q1.1 ≠ d) (hkn : ∀ p ∈ kn, p.1 ≠ d) (hks : ∀ p ∈ ks, p.2.cls = .type "tuple") (hnl : ∀ p ∈ nl, p.1 ≠ d) (hz : xs.length ≤ 1000) (hu : A.in1.units + 16 < cLine)
    (h : ∀ h' o' tk, Fr h₀ L h' m → News h₀ L h' (q1 :: (d, o') :: (kn ++ (ks ++ nl))) → DictL w (ks ++ nw) o' (xs ++ [(tkD n, a, v)]) → Q () { s with heap := h', toks := tk }) : wpAny (model PR w) A (setItem (.ref d) (.ref a) v) Q E s := by
  have hks' : ∀ p ∈ ks, p.1 ≠ d := fun p hp q => by
    have e1 := (N p (.tail _ (.tail _ (List.mem_append_right _ (List.mem_append_left _ hp))))).1
    have e2 := (N (d, o) (.tail _ (.head _))).1
    rw [q, e2] at e1
    have e3 : o = p.2 := Option.some.inj e1
    exact absurd (Value.type.inj (x.1.1.symm.trans (e3 ▸ hks p hp))) (by decide)
  refine set_L (nk := ks ++ nw) (rest := q1 :: (kn ++ (ks ++ nl))) F (fun p hp => N p ?_) (fun p hp => ?_) (fun p hp => ?_) (x.mono fun p hp => List.mem_append_right _ hp) ha (tkD_ok n) (tkD_depth n) hu hat hz fun h' o' tk F' N' x' => h h' o' tk F' (fun p hp => N' p ?_) x'
  · simp only [List.mem_cons] at hp ⊢; rcases hp with hp | hp | hp
    · exact .inr (.inl hp)
    · exact .inl hp
    · exact .inr (.inr hp)
  · refine .tail _ (List.mem_append_right _ ?_)
    rcases List.mem_append.mp hp with hp | hp
    · exact List.mem_append_left _ hp
    · exact List.mem_append_right _ (hs p hp)
  · rcases List.mem_cons.mp hp with rfl | hp
    · exact hn1
    · rcases List.mem_append.mp hp with hp | hp
      · exact hkn p hp
      · rcases List.mem_append.mp hp with hp | hp
        · exact hks' p hp
        · exact hnl p hp
  · simp only [List.mem_cons] at hp ⊢; rcases hp with hp | hp | hp
    · exact .inr (.inl hp)
    · exact .inl hp
    · exact .inr (.inr hp)
theorem up_A {nw nl ks : List (Addr × Obj)} (hs : ∀ p ∈ nw, p ∈ nl) : ∀ p ∈ nw, p ∈ ks ++ nl := fun p hp => List.mem_append_right _ (hs p hp)
theorem apart2 {h₀ h : Heap} {L : Addr} {ks nl : List (Addr × Obj)} {d1 d2 : Addr} {o1 o2 : Obj} (N : News h₀ L h ((d1, o1) :: (d2, o2) :: (ks ++ nl))) (hk : ∀ p ∈ ks, p.2.cls = Value.type "tuple") (m1 : (d1, o1) ∈ (d1, o1) :: (d2, o2) :: (ks ++ nl)) (m2 : (d2, o2) ∈ (d1, o1) :: (d2, o2) :: (ks ++ nl)) (b1 : o1.cls = .type "dict") (b2 : o2.cls = .type "dict") (h1 : ∀ p ∈ nl, p.1 ≠ d1) (h2 : ∀ p ∈ nl, p.1 ≠ d2) : ∀ p ∈ ks ++ nl, ∀ q ∈ [(d1, o1), (d2, o2)], p.1 ≠ q.1 := by
  have key : ∀ (d : Addr) (o : Obj), (d, o) ∈ (d1, o1) :: (d2, o2) :: (ks ++ nl) → o.cls = .type "dict" → ∀ p ∈ ks, p.1 ≠ d := fun d o hm hb p hp q => by
    have e1 := (N p (.tail _ (.tail _ (List.mem_append_left _ hp)))).1
    have e2 := (N _ hm).1
    rw [q, e2] at e1
    have e3 : o = p.2 := Option.some.inj e1
    exact absurd (Value.type.inj (hb.symm.trans (e3 ▸ hk p hp))) (by decide)
  intro p hp q hq
  rcases List.mem_append.mp hp with hp | hp
  · rcases List.mem_cons.mp hq with rfl | hq
    · exact key _ _ m1 b1 p hp
    · rw [List.mem_singleton.mp hq]; exact key _ _ m2 b2 p hp
  · rcases List.mem_cons.mp hq with rfl | hq
    · exact h1 p hp
    · rw [List.mem_singleton.mp hq]; exact h2 p hp
theorem miss_end {w : World} {g h : Heap} {L : Addr} {nw nl kn ks : List (Addr × Obj)} {n : Int} {dfa dd x a : Addr} {hh : Int} {t : Tok} {k : Nat} {o' : Obj} {xs : List (D × Addr × Value)} {P : Prop}
    (N : News g L h ((dfa, dictOf [⟨hh, .str "data" t, .ref dd⟩] k) :: (dd, o') :: (kn ++ (ks ++ nl)))) (hx : DictL w (ks ++ nw) o' (xs ++ [(tkD n, a, .ref x)])) (hr : RefN kn n x) (hk : ∀ p ∈ ks, p.2.cls = Value.type "tuple") (hs : ∀ p ∈ nw, p ∈ nl) (hne : @Ne Nat dfa dd) (hsm : (dd == sysModules) = false) (q1 : ∀ p ∈ kn, p.1 ≠ dfa) (q2 : ∀ p ∈ kn, p.1 ≠ dd) (ha1 : ∀ p ∈ nl, p.1 ≠ dfa) (ha2 : ∀ p ∈ nl, p.1 ≠ dd) (hnew : ∀ p ∈ nl, p.1 ≠ x)
    (hm : ∀ mf' kn', News g L h (mf' ++ (kn' ++ nl)) → Fac w (kn' ++ nw) dfa mf' (xs ++ [(tkD n, a, .ref x)]) → (∀ p ∈ kn' ++ nl, ∀ q ∈ mf', p.1 ≠ q.1) → RefN (kn' ++ nw) n x → (∀ p ∈ nl, p.1 ≠ x) → P) : P := by
  have N2 : News g L h ((dfa, dictOf [⟨hh, .str "data" t, .ref dd⟩] k) :: (dd, o') :: (ks ++ nl)) := fun p hp => N p (by
    simp only [List.mem_cons, List.mem_append] at hp ⊢
    rcases hp with hp | hp | hp
    · exact .inl hp
    · exact .inr (.inl hp)
    · exact .inr (.inr (.inr hp)))
  have ap := apart2 N2 hk (List.Mem.head _) (List.Mem.tail _ (List.Mem.head _)) rfl hx.1.1 ha1 ha2
  refine hm [_, _] (kn ++ ks) (by rw [List.append_assoc]; exact N) (.busy (hx.mono fun p hp => ?_) hne hsm) (fun p hp => ?_) (hr.mono fun p hp => List.mem_append_left _ (List.mem_append_left _ hp)) hnew
  · rw [List.append_assoc]; exact List.mem_append_right _ hp
  · rw [List.append_assoc] at hp
    rcases List.mem_append.mp hp with hp | hp
    · intro q hq
      rcases List.mem_cons.mp hq with rfl | hq
      · exact q1 p hp
      · rw [List.mem_singleton.mp hq]; exact q2 p hp
    · exact ap p hp
theorem up_R {nw nl ks : List (Addr × Obj)} {q1 q2 : Addr × Obj} (hs : ∀ p ∈ nw, p ∈ nl) : ∀ p ∈ nw, p ∈ q1 :: q2 :: (ks ++ nl) := fun p hp => .tail _ (.tail _ (List.mem_append_right _ (hs p hp)))
theorem up_L {nw nl ks : List (Addr × Obj)} {q1 q2 : Addr × Obj} (hs : ∀ p ∈ nw, p ∈ nl) : ∀ p ∈ ks ++ nw, p ∈ q1 :: q2 :: (ks ++ nl) := fun p hp => .tail _ (.tail _ ((List.mem_append.mp hp).elim (fun h => List.mem_append_left _ h) fun h => List.mem_append_right _ (hs p h)))
section
variable {w : World} {p : Program} {loose : List Str} {mean : ExcName → Option Value} {mg mb : Str → Option Value} {dp un : Nat} {gd : Option (List Code)} {fr : Option (List Env)} {s : Shared} {Q E : Value → Shared → Prop} {n : Int}
theorem load_K {h₀ base : Heap} {L : Addr} {m : Str → Option Value} {nw nl mf : List (Addr × Obj)} {A₀ : Around} {outer : List Env} {env : Env} {v : Value} {fa dfa : Addr} {xs : List (D × Addr × Value)}
    (B : Below A₀ base outer h₀) (F : Fr h₀ L s.heap m) (N : News h₀ L s.heap (mf ++ nl)) (X : (hd.heap_1 w.params).In h₀) (T : Top p loose mean mg mb h₀) (XB : (hd.heap_1 w.params).In base) (TB : Top p loose mean mg mb base) (D : KtsDicts (outer.filterMap (·.frame)) h₀)
    (hfr : fr = some (env :: outer)) (hef : env.frame = some L) (hck : env.scope.kind = .function) (hdp : dp < 670) (hun : un < 170)
    (hval : ValA nw n false [] v) (hs : ∀ p ∈ nw, p ∈ nl) (hfa : (fa, instObj 130 dfa) ∈ nl) (hfac : Fac w nw dfa mf xs) (hap : ∀ p ∈ nl, ∀ q ∈ mf, p.1 ≠ q.1) (hrefs : ∀ k q, atKey xs k = some q → ∃ x, q.2 = .ref x) (hlen : xs.length ≤ 1000)
    (hhit : ∀ q x mf' kn g' h' tk, atKey xs (tkD n) = some (q, .ref x) → KtsTurn (outer.filterMap (·.frame)) h₀ g' → Fr g' L h' m → News g' L h' (mf' ++ (kn ++ nl)) → Fac w (kn ++ nw) dfa mf' xs → (∀ p ∈ kn ++ nl, ∀ q ∈ mf', p.1 ≠ q.1) → Q (.ref x) { s with heap := h', toks := tk })
    (hmiss : ∀ x a mf' kn g' h' tk, atKey xs (tkD n) = none → KtsTurn (outer.filterMap (·.frame)) h₀ g' → Fr g' L h' m → News g' L h' (mf' ++ (kn ++ nl)) → Fac w (kn ++ nw) dfa mf' (xs ++ [(tkD n, a, .ref x)]) → (∀ p ∈ kn ++ nl, ∀ q ∈ mf', p.1 ≠ q.1) → RefN (kn ++ nw) n x → (∀ p ∈ nl, p.1 ≠ x) → Q (.ref x) { s with heap := h', toks := tk }) :
    wpAny (model PR w) (tA dp un gd fr) (call (.ref 127) [.ref fa, v]) Q E s := by
  k_with_none
  (k_with "ktr_room" => ((first | k_dflt (exact lt_0 (by assumption) rfl) | k_dflt (exact lt_1 (by assumption) rfl) | ((simp only [depth_under_make, depth_under_kw, depth_in1, depth_deeper, depth_caller, recursionLimit] at *); omega))))
  (k_with "k_room" => ((first | k_dflt (exact lt_0 (by assumption) rfl) | k_dflt (exact lt_1 (by assumption) rfl) | ((simp only [depth_under_make, depth_under_kw, depth_in1, depth_deeper, depth_caller, recursionLimit] at *); omega))))
  (k_with "k_units" => ((first | k_dflt (exact lt_0 (by assumption) rfl) | k_dflt (exact lt_1 (by assumption) rfl) | k_dflt (exact lt_2 (by assumption) rfl) | k_dflt (exact lt_3 (by assumption) rfl) | ((have qhcL9 := cLine_is); (simp only [units_in1, units_deeper, Around.mark_units, units_caller, cLine] at *); omega))))
  (k_with "execs cons" => (((first | (with_reducible show wpAny _ _ _ _ _ (Shared.mk _ _ _ (_ + 1) _)) | (with_reducible show wpAny _ _ _ _ _ (Shared.mk _ _ _ (Shared.toks (Shared.mk _ _ _ _ _)) _))); refine tok_gen (fun tk => ?_))))
  (k_with "k_enter" => ((refine' code_defN ?h173hk2 ?h173hk3 ?h173hk4 ?h173hk5 ?h173hk6 ?h173hk7 ?h173hk8 ?h173hk9 ?h173hkB ?_ ?h173hc2 ?h173hc3 ?h173hc4 ?h173hc5; (case h173hk2 => k_asm); (case h173hk3 => k_asm); (case h173hk4 => k_asm); (case h173hk5 => k_asm); (case h173hk6 => k_is); (case h173hk7 => k_is); (case h173hk8 => k_room); (case h173hk9 => first | exact BindsTo.of_eq rfl | exact binds_K (by k_in) rfl (by k_is) rfl rfl rfl | fail "k_enter: no rule for these arguments"); (case h173hc5 => decide); (case h173hkB => exact locs rfl); (case h173hc2 => exact rfl); (case h173hc3 => exact rfl); (case h173hc4 => exact rfl); k_whole; intro qg' qL' qh' qFG' qF' qN' qX' qT'; (try dsimp only); (try k_fold))))
  (k_with "eval Dict nil nil" => ((k_here; k_dflt (refine' newD_L ?h174hF ?h174hN ?h174hb ?_; (case h174hF => k_asm); (case h174hN => k_asm); (case h174hb => exact Top.nolimit (by k_asm)); k_whole); intro qd' qh' qF' qN' ql1 qhs'; (try k_lt ql1); (try k_sweep))))
  (k_with "setAttr ref" => ((k_here; k_dflt (refine' set_dict ?h175hk1 ?h175hk2 ?h175hk3 ?h175hk4 ?h175hk5 ?h175hk6 ?h175hk7 ?h175hk8 ?h175hk9 ?h175hk10 ?h175hk11 ?h175hk12 ?h175hk13 ?_; (case h175hk1 => k_asm); (case h175hk2 => k_asm); (case h175hk3 => k_asm); (case h175hk4 => k_inst); (case h175hk5 => exact rfl); (case h175hk6 => k_is); (case h175hk7 => k_is); (case h175hk8 => k_is); (case h175hk9 => k_is); (case h175hk10 => exact rfl); (case h175hk11 => exact rfl); (case h175hk12 => k_upd); (case h175hk13 => exact Nat.le_of_ble_eq_true rfl); k_whole); intro qh' qF' qN'; (try k_sweep))))
  (k_with "k_mem" => (exact List.Mem.tail _ (List.Mem.tail _ (List.mem_append_right _ (List.mem_append_right _ (by assumption))))))
  (k_with "k_mem" => (exact List.Mem.tail _ (List.Mem.tail _ (List.mem_append_right _ (by assumption)))))
  (k_with "k_mem" => (assumption))
  (k_with "eval Name" => ((k_here; k_dflt (refine' ld ?h179hk1 ?h179hk2 ?_; (case h179hk1 => k_asm); (case h179hk2 => assumption); k_whole))))
  (k_with "k_all" => (assumption))
  (k_with "call ref" => ((k_here; (with_reducible show wpAny _ _ (call (Value.ref 109) [_]) _ _ _); k_dflt (refine' pr_L2 ?h181hB ?h181hF ?h181hN ?h181hX ?h181hT ?h181hXB ?h181hTB ?h181hD ?h181hhfr ?h181hhef ?h181hhck ?h181hhdp ?h181hhun ?h181hv ?h181hs ?h181hb1 ?h181hb2 ?_; (case h181hB => assumption); (case h181hF => k_asm); (case h181hN => k_asm); (case h181hX => k_asm); (case h181hT => k_asm); (case h181hXB => assumption); (case h181hTB => assumption); (case h181hD => assumption); (case h181hhfr => exact rfl); (case h181hhef => exact rfl); (case h181hhck => exact rfl); (case h181hhdp => (first | exact lt_0 (by assumption) rfl | exact lt_1 (by assumption) rfl | exact lt_2 (by assumption) rfl | exact lt_3 (by assumption) rfl | ((try dsimp only); omega))); (case h181hhun => (first | exact lt_0 (by assumption) rfl | exact lt_1 (by assumption) rfl | exact lt_2 (by assumption) rfl | exact lt_3 (by assumption) rfl | ((try dsimp only); omega))); (case h181hv => assumption); (case h181hs => exact up_A (by assumption)); (case h181hb1 => exact bad_data); (case h181hb2 => exact bad_dictL (by assumption)); k_whole); intro qg' qx' qkn' qh' qtk' qT' qF' qN' qB' qX' qP' qD' qR' qhq1 qhq2 qhx'; (try k_sweep))))
  (k_with "setItem ref ref" => ((k_here; k_dflt (refine' set_L2 ?h182hx ?h182hha ?h182haq ?h182hF ?h182hN ?h182hhs ?h182hn1 ?h182hkn ?h182hks ?h182hnl ?h182hz ?h182hu ?_; (case h182hx => assumption); (case h182hha => assumption); (case h182haq => assumption); (case h182hF => k_asm); (case h182hN => k_asm); (case h182hhs => assumption); (case h182hn1 => assumption); (case h182hkn => assumption); (case h182hks => assumption); (case h182hnl => assumption); (case h182hz => assumption); (case h182hu => k_units); k_whole); intro qh' qo' qtk' qF' qN' qhx'; (try k_sweep))))
  (k_with "call type:tuple" => ((k_here; k_dflt (refine' tuple_L2 ?h183hv ?h183hs ?h183hh ?h183hF ?h183hN ?_; (case h183hv => assumption); (case h183hs => assumption); (case h183hh => exact rfl); (case h183hF => k_asm); (case h183hN => k_asm); k_whole); intro qa' qks' qh' qtk' qF' qN' qhk' qht'; (try k_sweep))))
  (k_with "getMethod ref" => ((k_here; (with_reducible show wpAny _ _ (getMethod (Value.ref _) ("get" : Str) _) _ _ _); k_dflt (refine' getM_L ?h184hx ?h184hN ?h184hm ?_; (case h184hx => assumption); (case h184hN => k_asm); (case h184hm => exact List.Mem.tail _ (List.Mem.head _)); k_whole))))
  (k_with "call builtin:dict.get" => ((k_here; k_dflt (first | (refine' get_hit ?h185ha ?h185hx ?h185hk ?h185hN ?h185hm ?h185hd ?h185hh1 ?h185hh2 ?h185ho ?h185hp ?h185hu ?_; (case h185ha => assumption); (case h185hx => assumption); (case h185hk => assumption); (case h185hN => k_asm); (case h185hm => exact List.Mem.tail _ (List.Mem.head _)); (case h185hd => assumption); (case h185hh1 => exact up_R (by assumption)); (case h185hh2 => exact up_L (by assumption)); (case h185ho => exact tkD_ok _); (case h185hp => exact tkD_depth _); (case h185hu => k_units); k_whole) | (refine' get_miss ?h185ha ?h185hx ?h185hk ?h185hN ?h185hm ?h185hd ?h185hh1 ?h185hh2 ?h185ho ?h185hp ?h185hu ?_; (case h185ha => assumption); (case h185hx => assumption); (case h185hk => assumption); (case h185hN => k_asm); (case h185hm => exact List.Mem.tail _ (List.Mem.head _)); (case h185hd => assumption); (case h185hh1 => exact up_R (by assumption)); (case h185hh2 => exact up_L (by assumption)); (case h185ho => exact tkD_ok _); (case h185hp => exact tkD_depth _); (case h185hu => k_units); k_whole)); intro qtk')))
  subst hfr
  refine wpAny_call ?_
  k_dflt (refine' code_defE ?k1 ?k2 ?k3 ?k4 ?k5 ?XB ?TB ?D ?T0 ?kA ?kE ?k6 ?k7 ?k8 ?k9 ?kB ?_ ?cK ?c2 ?c3 ?c4 ?c5; (case kA => exact rfl); (case kE => exact hef); (case k2 => k_asm); (case k1 => k_asm); (case XB => assumption); (case TB => assumption); (case D => assumption); (case T0 => first | assumption | exact KtsTurn.refl); (case k3 => k_asm); (case k4 => k_asm); (case k5 => k_asm); (case k6 => k_is); (case k7 => k_is); (case k8 => k_room); (case k9 => exact BindsTo.of_eq rfl); (case kB => exact locs rfl); (case cK => exact hck); (case c2 => exact rfl); (case c3 => exact rfl); (case c4 => exact rfl); (case c5 => decide); k_whole)
  intro g' L' h'' FG' F'' N'' B' X' T' D'
  clear F N B
  dsimp only
  refine execs_cut1 (PreL w nw nl dfa fa v xs g' L' s) ?_ ?_
  · cases hfac with
    | fresh =>
      have hx1 : ∀ p ∈ nl, p.1 ≠ dfa := fun p hp => hap p hp _ (.head _)
      simp only [List.cons_append, List.nil_append] at N''
      k_steps
      (with_reducible rename Fr _ _ _ _ => F9); (with_reducible rename News _ _ _ _ => N9)
      have l9 := (by assumption : _ ∧ AllLt _ nl)
      exact ⟨_, _, _, _, _, _, _, _, rfl, F9, fun p hp => N9 p (by
        simp only [List.mem_cons] at hp ⊢
        rcases hp with hp | hp | hp
        · exact .inr (.inl hp)
        · exact .inl hp
        · exact .inr (.inr hp)), DictL.empty w nw, Nat.ne_of_lt l9.1, by assumption, hx1, ne_tail l9.2, rfl, rfl⟩
    | busy hd hne hsm =>
      simp only [List.cons_append, List.nil_append] at N''
      k_steps
      (with_reducible rename Fr _ _ _ _ => F9); (with_reducible rename News _ _ _ _ => N9)
      exact ⟨_, _, _, _, _, _, _, _, rfl, F9, N9, hd, hne, hsm, fun p hp => hap p hp _ (.head _), fun p hp => hap p hp _ (.tail _ (.head _)), rfl, rfl⟩
  · clear F'' N'' hfac hap
    obtain ⟨_, hvd⟩ := hval.datum
    rintro s' ⟨hh, t, k, dd, o, m', h', tk', rfl, F', N', hx, hne, hsm, ha1, ha2, e1, e2⟩
    cases hat : atKey xs (tkD n) with
    | some q =>
      obtain ⟨qa, r⟩ := q
      obtain ⟨x, rfl⟩ : ∃ x, r = .ref x := hrefs _ _ hat
      k_steps
      (with_reducible rename Fr _ _ _ _ => F9); (with_reducible rename News _ _ _ _ => N9)
      have ht9 := (by assumption : ∀ p ∈ (_ : List (Addr × Obj)), p.2.cls = Value.type "tuple")
      refine hhit _ _ [_, _] _ _ _ _ hat KtsTurn.refl F9 N9 (.busy (hx.mono fun p hp => List.mem_append_right _ hp) hne hsm) ?_
      exact apart2 N9 ht9 (List.Mem.head _) (List.Mem.tail _ (List.Mem.head _)) rfl hx.1.1 ha1 ha2
    | none =>
      k_steps
      (with_reducible rename Fr _ _ _ _ => F9); (with_reducible rename News _ _ _ _ => N9)
      (with_reducible rename KtsTurn _ _ _ => T9)
      have ht9 := (by assumption : ∀ p ∈ (_ : List (Addr × Obj)), p.2.cls = Value.type "tuple")
      have hx9 := (by assumption : DictL w _ _ (xs ++ _))
      have hr9 := (by assumption : RefN _ n _)
      exact miss_end N9 hx9 hr9 ht9 hs hne hsm (by assumption) (by assumption) ha1 ha2 (fun p hp => (by assumption : ∀ p ∈ (_ :: _ :: (_ ++ nl) : List (Addr × Obj)), p.1 ≠ _) p (.tail _ (.tail _ (List.mem_append_right _ hp)))) fun mf' kn' a1 a2 a3 a4 a5 => hmiss _ _ mf' kn' _ _ _ hat T9 F9 a1 a2 a3 a4 a5
end
end Mine
namespace Mine
open Classical
/-- the index of the identity -/
theorem fm3 (a : Int) : a.fmod 3 = 0 ∨ a.fmod 3 = 1 ∨ a.fmod 3 = 2 := int3 (fm_ge a rfl) (fm_lt a rfl)
theorem fm2 (a : Int) : a.fmod 2 = 0 ∨ a.fmod 2 = 1 := int2 (fm_ge a rfl) (fm_lt a rfl)
theorem oid_inj {n m : Int} (hx : (n.fdiv 144).fmod 2 = (m.fdiv 144).fmod 2) (h : oidB n = oidB m) : (n.fdiv 8).fmod 3 = (m.fdiv 8).fmod 3 := by
  have key : ∀ i j x : Int, (i = 0 ∨ i = 1 ∨ i = 2) → (j = 0 ∨ j = 1 ∨ j = 2) → (x = 0 ∨ x = 1) →
      byteArr (if i = 0 then [0, 0, 0, 0, 0, 0, 0, 1] else if i = 1 then [1, 0, 0, 0, 0, 0, 0, 1] else [0, 0, 0, 0, 0, 0, 0, 200 - 100 * x]) = byteArr (if j = 0 then [0, 0, 0, 0, 0, 0, 0, 1] else if j = 1 then [1, 0, 0, 0, 0, 0, 0, 1] else [0, 0, 0, 0, 0, 0, 0, 200 - 100 * x]) → i = j := by
    rintro i j x (rfl | rfl | rfl) (rfl | rfl | rfl) (rfl | rfl) <;> decide
  refine key _ _ _ (fm3 _) (fm3 _) (fm2 (n.fdiv 144)) ?_
  unfold oidB octs at h
  rw [← hx] at h
  exact h
theorem key_facts {n m : Int} (h : keyD n = keyD m) : form8 (n.fmod 8) = form8 (m.fmod 8) ∧ oidB n = oidB m ∧ baseK n = baseK m ∧ namesD n = namesD m ∧ (n.fdiv 144).fmod 2 = (m.fdiv 144).fmod 2 := by
  unfold keyD at h
  injection h with h
  injection h with a h
  injection h with b h
  injection h with c h
  injection h with d h
  injection h with e h
  injection a with a
  injection b with b
  injection c with c
  injection e with e
  exact ⟨a, b, c, d, e⟩
theorem names_inj {n m : Int} (hn : hasKl n = true) (hm : hasKl m = true) (h : namesD n = namesD m) : nmD n = nmD m := by
  rw [namesD, namesD, if_pos hn, if_pos hm] at h
  exact h
theorem oidD_eq {n m : Int} (hx : (n.fdiv 144).fmod 2 = (m.fdiv 144).fmod 2) (h : oidB n = oidB m) : oidD n = oidD m := by
  have e := oid_inj hx h
  unfold oidD oidS
  rw [hx, e, h]
theorem f_range (n : Int) : 0 ≤ n.fmod 8 ∧ n.fmod 8 < 8 := ⟨fm_ge n rfl, fm_lt n rfl⟩
/-- a form's class, and what follows from it -/
theorem f_tri (n : Int) : (n.fmod 8 < 2 ∧ form8 (n.fmod 8) = 0) ∨ ((2 ≤ n.fmod 8 ∧ n.fmod 8 < 4) ∧ form8 (n.fmod 8) = 2) ∨ (4 ≤ n.fmod 8 ∧ form8 (n.fmod 8) = n.fmod 8) := by
  by_cases h2 : n.fmod 8 < 2
  · exact .inl ⟨h2, if_pos h2⟩
  by_cases h4 : n.fmod 8 < 4
  · exact .inr (.inl ⟨⟨Int.not_lt.mp h2, h4⟩, (if_neg h2).trans (if_pos h4)⟩)
  · exact .inr (.inr ⟨Int.not_lt.mp h4, (if_neg h2).trans (if_neg h4)⟩)
theorem form8_cases {n m : Int} (h : form8 (n.fmod 8) = form8 (m.fmod 8)) : (n.fmod 8 < 2 ∧ m.fmod 8 < 2) ∨ ((2 ≤ n.fmod 8 ∧ n.fmod 8 < 4) ∧ (2 ≤ m.fmod 8 ∧ m.fmod 8 < 4)) ∨ (4 ≤ n.fmod 8 ∧ n.fmod 8 = m.fmod 8) := by
  rcases f_tri n with ⟨a, e⟩ | ⟨a, e⟩ | ⟨a, e⟩ <;> rcases f_tri m with ⟨b, f⟩ | ⟨b, f⟩ | ⟨b, f⟩ <;> rw [e, f] at h
  · exact .inl ⟨a, b⟩
  · exact absurd h (by decide)
  · exact (no_le h.symm b rfl).elim
  · exact absurd h (by decide)
  · exact .inr (.inl ⟨a, b⟩)
  · exact (no_le h.symm b rfl).elim
  · exact (no_le h a rfl).elim
  · exact (no_le h a rfl).elim
  · exact .inr (.inr ⟨a, h⟩)
theorem base_yes {n : Int} (h : n.fmod 8 = 4 ∨ n.fmod 8 = 5 ∨ n.fmod 8 = 6) : baseK n = baseS n := by
  rw [baseK, if_pos]
  rcases h with h | h | h <;> rw [h] <;> rfl
theorem five (n m : Int) (h : n.fmod 8 = m.fmod 8) : 5 < n.fmod 8 ↔ 5 < m.fmod 8 := by rw [h]
/-- numbers of one key make equal references -/
theorem key_same {n m : Int} (h : keyD n = keyD m) : valD n = valD m ∧ hasDb n = hasDb m ∧ (hasDb n = true → baseS n = baseS m) ∧ oidB n = oidB m ∧ (5 < n.fmod 8 ↔ 5 < m.fmod 8) := by
  obtain ⟨hf, ho, hb, hn, hx⟩ := key_facts h
  have hO := oidD_eq hx ho
  rcases form8_cases hf with ⟨a, b⟩ | ⟨⟨a1, a2⟩, b1, b2⟩ | ⟨a, b⟩
  · have k := names_inj (kl_yes (int014 (f_range n).1 a)) (kl_yes (int014 (f_range m).1 b)) hn
    have z := hasDb_lt4 (Int.lt_trans a (by decide))
    refine ⟨by rw [valD_lt2 a, valD_lt2 b, hO, k], z.trans (hasDb_lt4 (Int.lt_trans b (by decide))).symm, fun q => ?_, ho, ⟨fun q => (no_in (Int.le_of_lt q) a rfl).elim, fun q => (no_in (Int.le_of_lt q) b rfl).elim⟩⟩
    rw [z] at q; cases q
  · have z := hasDb_lt4 a2
    refine ⟨by rw [valD_lt4 a1 a2, valD_lt4 b1 b2, hO], z.trans (hasDb_lt4 b2).symm, fun q => ?_, ho, ⟨fun q => (no_in (Int.le_of_lt q) a2 rfl).elim, fun q => (no_in (Int.le_of_lt q) b2 rfl).elim⟩⟩
    rw [z] at q; cases q
  · rcases int48 a (f_range n).2 with q | q | q | q
    · have bb : baseS n = baseS m := by rw [← base_yes (.inl q), ← base_yes (.inl (b ▸ q)), hb]
      have k := names_inj (kl_yes (.inr (.inr q))) (kl_yes (.inr (.inr (b ▸ q)))) hn
      exact ⟨by rw [valD_4 q, valD_4 (b ▸ q), bb, hO, k], (hasDb_4 q).trans (hasDb_4 (b ▸ q)).symm, fun _ => bb, ho, five n m b⟩
    · have bb : baseS n = baseS m := by rw [← base_yes (.inr (.inl q)), ← base_yes (.inr (.inl (b ▸ q))), hb]
      exact ⟨by rw [valD_5 q, valD_5 (b ▸ q), bb, hO], (hasDb_5 q).trans (hasDb_5 (b ▸ q)).symm, fun _ => bb, ho, five n m b⟩
    · have bb : baseS n = baseS m := by rw [← base_yes (.inr (.inr q)), ← base_yes (.inr (.inr (b ▸ q))), hb]
      exact ⟨by rw [valD_6 q, valD_6 (b ▸ q), bb, hO], by unfold hasDb; rw [b, bb], fun _ => bb, ho, five n m b⟩
    · refine ⟨by rw [valD_7 q, valD_7 (b ▸ q), hO], (hasDb_7 q).trans (hasDb_7 (b ▸ q)).symm, fun z => ?_, ho, five n m b⟩
      rw [hasDb_7 q] at z; cases z
theorem key_tk {n m : Int} (h : keyD n = keyD m) : tkD n = tkD m := by
  obtain ⟨hf, ho, hb, hn, hx⟩ := key_facts h
  have hO := oidD_eq hx ho
  have hS : oidS n = oidS m := by unfold oidS; rw [oid_inj hx ho]
  rcases form8_cases hf with ⟨a, b⟩ | ⟨⟨a1, a2⟩, b1, b2⟩ | ⟨a, b⟩
  · rw [tkD_lt2 a, tkD_lt2 b, hO, names_inj (kl_yes (int014 (f_range n).1 a)) (kl_yes (int014 (f_range m).1 b)) hn]
  · rw [tkD_lt4 a1 a2, tkD_lt4 b1 b2, hx, ho, hS]
  · rcases int48 a (f_range n).2 with q | q | q | q
    · rw [tkD_4 q, tkD_4 (b ▸ q), ← base_yes (.inl q), ← base_yes (.inl (b ▸ q)), hb, hO, names_inj (kl_yes (.inr (.inr q))) (kl_yes (.inr (.inr (b ▸ q)))) hn]
    · rw [tkD_5 q, tkD_5 (b ▸ q), ← base_yes (.inr (.inl q)), ← base_yes (.inr (.inl (b ▸ q))), hb, hO]
    · rw [tkD_6 q, tkD_6 (b ▸ q), ← base_yes (.inr (.inr q)), ← base_yes (.inr (.inr (b ▸ q))), hb, hO]
    · rw [tkD_7 q, tkD_7 (b ▸ q), hO]
theorem RefN.same {nw : List (Addr × Obj)} {n m : Int} {x : Addr} (h : keyD n = keyD m) (R : RefN nw n x) : RefN nw m x := by
  obtain ⟨e1, e3, e4, e5, e6⟩ := key_same h
  obtain ⟨dx, es, k, t, a, b, r⟩ := R
  refine ⟨dx, es, k, t, a, b, by rw [← e5]; exact r.oid, ?_, ?_, fun q => ?_, fun q => r.dbn (e3 ▸ q), r.cmp⟩
  · rw [← e1]; exact r.data
  · have := r.weak
    by_cases w : 5 < n.fmod 8
    · rw [if_pos w] at this; rw [if_pos (e6.mp w)]; exact this
    · rw [if_neg w] at this; rw [if_neg (fun z => w (e6.mpr z))]; exact this
  · obtain ⟨t, z⟩ := r.dby (e3 ▸ q)
    exact ⟨t, by rw [← e4 (e3 ▸ q)]; exact z⟩
end Mine
namespace Mine
open Classical
noncomputable def D.strO : D → Option Str := @D.rec (fun _ => Option Str) (fun _ => Unit) Option.none (fun _ => Option.none) (fun _ => Option.none) some (fun _ => Option.none) (fun _ _ => Option.none) (fun _ _ => Option.none) () (fun _ _ _ _ => ())
noncomputable def D.items : D → List D := @D.rec (fun _ => List D) (fun _ => Unit) [] (fun _ => []) (fun _ => []) (fun _ => []) (fun _ => []) (fun l _ => l) (fun _ _ => []) () (fun _ _ _ _ => ())
noncomputable def tagS (s : Str) : Int := if s = "m" then 4 else if s = "n" then 5 else if s = "w" then 6 else 0
/-- the class of a key, read off its datum -/
noncomputable def tagD (d : D) : Int := if d.items.length = 1 then 7 else if d.items.length = 8 then 2 else ((d.items.head?.bind D.strO).map tagS).getD 0
theorem oidS_ne {n : Int} {x : Str} (hx : x.cps.size = 1) : oidS n ≠ x := fun e => absurd ((oidS_size n).symm.trans ((congrArg (fun s : Str => s.cps.size) e).trans hx)) (by decide)
theorem oidS_len (n : Int) : (oidS n).cps.toList.length = 8 := oidS_size n
theorem oidB_len (n : Int) : (oidB n).toList.length = 8 := by
  unfold oidB byteArr octs
  split
  · rfl
  · split <;> rfl
theorem tag_tk (n : Int) : tagD (tkD n) = form8 (n.fmod 8) := by
  rcases f_tri n with ⟨a, e⟩ | ⟨⟨a1, a2⟩, e⟩ | ⟨a, e⟩
  · rw [tkD_lt2 a, e]
    rcases oidD_or n with o | o <;> rw [o]
    · exact ((if_neg (oidS_ne rfl)).trans ((if_neg (oidS_ne rfl)).trans (if_neg (oidS_ne rfl))) : tagS (oidS n) = 0)
    · rfl
  · rw [tkD_lt4 a1 a2, e]
    have k : ∀ l : List D, l.length = 8 → tagD (.tup l) = 2 := fun l h => by
      show (if l.length = 1 then (7 : Int) else if l.length = 8 then 2 else _) = 2
      rw [h]; rfl
    split
    · exact k _ ((List.length_map _).trans (oidS_len n))
    · exact k _ ((List.length_map _).trans (oidB_len n))
  · rcases int48 a (f_range n).2 with q | q | q | q
    · rw [tkD_4 q, q]; rfl
    · rw [tkD_5 q, q]; rfl
    · rw [tkD_6 q, q]; split <;> rfl
    · rw [tkD_7 q, q]; rfl
theorem textS_inj {n m : Int} (h : oidS n = oidS m) : (n.fdiv 8).fmod 3 = (m.fdiv 8).fmod 3 := by
  have key : ∀ i j : Int, (i = 0 ∨ i = 1 ∨ i = 2) → (j = 0 ∨ j = 1 ∨ j = 2) → (if i = 0 then textOf oct0 else if i = 1 then textOf oct1 else textOf oct2) = (if j = 0 then textOf oct0 else if j = 1 then textOf oct1 else textOf oct2) → i = j := by
    rintro i j (rfl | rfl | rfl) (rfl | rfl | rfl) <;> decide
  exact key _ _ (fm3 _) (fm3 _) h
theorem oidB_same {n m : Int} (h : (n.fdiv 8).fmod 3 = (m.fdiv 8).fmod 3) (hx : (n.fdiv 144).fmod 2 = (m.fdiv 144).fmod 2) : oidB n = oidB m := by
  unfold oidB octs
  rw [h, hx]
theorem oidD_inj {n m : Int} (h : oidD n = oidD m) : (n.fdiv 144).fmod 2 = (m.fdiv 144).fmod 2 ∧ oidB n = oidB m := by
  have no : (0 : Int) ≠ 1 := by decide
  unfold oidD at h
  rcases fm2 (n.fdiv 144) with a | a <;> rcases fm2 (m.fdiv 144) with b | b <;> rw [a, b] at h
  · exact ⟨a.trans b.symm, D.bytes.inj h⟩
  · cases h
  · cases h
  · exact ⟨a.trans b.symm, oidB_same (textS_inj (D.str.inj h)) (a.trans b.symm)⟩
theorem baseK_no {n : Int} (h : n.fmod 8 < 4 ∨ n.fmod 8 = 7) : baseK n = Str.ofString "" := by
  rw [baseK, if_neg]
  intro e
  obtain ⟨x, hx, e⟩ := List.any_eq_true.mp e
  have e := eq_of_beq e
  rcases h with h | h
  · exact absurd (e ▸ h) ((by decide : ∀ x ∈ ([4, 5, 6] : List Int), ¬ x < 4) x hx)
  · exact absurd (e.trans h) ((by decide : ∀ x ∈ ([4, 5, 6] : List Int), ¬ x = 7) x hx)
theorem names_yes {n m : Int} (hn : hasKl n = true) (hm : hasKl m = true) (h : nmD n = nmD m) : namesD n = namesD m := by rw [namesD, namesD, if_pos hn, if_pos hm, h]
theorem names_no {n m : Int} (hn : hasKl n = false) (hm : hasKl m = false) : namesD n = namesD m := by rw [namesD, namesD, if_neg (by simp [hn]), if_neg (by simp [hm])]
theorem key_of {n m : Int} (h1 : form8 (n.fmod 8) = form8 (m.fmod 8)) (h2 : oidB n = oidB m) (h3 : baseK n = baseK m) (h4 : namesD n = namesD m) (h5 : (n.fdiv 144).fmod 2 = (m.fdiv 144).fmod 2) : keyD n = keyD m := by
  unfold keyD
  rw [h1, h2, h3, h4, h5]
theorem map_str_inj : ∀ {a b : List Nat}, a.map (fun c => D.str ⟨#[c]⟩) = b.map (fun c => D.str ⟨#[c]⟩) → a = b
  | [], [], _ => rfl
  | [], _ :: _, h => by simp at h
  | _ :: _, [], h => by simp at h
  | x :: a, y :: b, h => by
    rw [List.map_cons, List.map_cons] at h
    injection h with h1 h2
    injection h1 with h1
    have h1 : (#[x] : Array Nat) = #[y] := congrArg Str.cps h1
    have h3 : x = y := by simpa using h1
    rw [h3, map_str_inj h2]
theorem map_int_inj : ∀ {a b : List UInt8}, a.map (fun c => D.int (c.toNat : Int)) = b.map (fun c => D.int (c.toNat : Int)) → a = b
  | [], [], _ => rfl
  | [], _ :: _, h => by simp at h
  | _ :: _, [], h => by simp at h
  | x :: a, y :: b, h => by
    rw [List.map_cons, List.map_cons] at h
    injection h with h1 h2
    injection h1 with h1
    have h3 : x = y := UInt8.toNat_inj.mp (Int.ofNat.inj h1)
    rw [h3, map_int_inj h2]
theorem map_apart {a : List Nat} {b : List UInt8} (ha : a.length = 8) (h : a.map (fun c => D.str ⟨#[c]⟩) = b.map (fun c => D.int (c.toNat : Int))) : False := by
  cases a with
  | nil => cases ha
  | cons x a =>
    cases b with
    | nil => simp at h
    | cons y b => simp at h
theorem oidS_inj {n m : Int} (h : (oidS n).cps.toList = (oidS m).cps.toList) : (n.fdiv 8).fmod 3 = (m.fdiv 8).fmod 3 := by
  refine textS_inj ?_
  have : (oidS n).cps = (oidS m).cps := Array.toList_inj.mp h
  cases hn : oidS n
  cases hm : oidS m
  rw [hn, hm] at this
  exact congrArg Str.mk this
/-- references of equal values of one form are found under equal keys -/
theorem tk_key {n m : Int} (h : tkD n = tkD m) : keyD n = keyD m := by
  have hf : form8 (n.fmod 8) = form8 (m.fmod 8) := by rw [← tag_tk, ← tag_tk, h]
  rcases form8_cases hf with ⟨a, b⟩ | ⟨⟨a1, a2⟩, b1, b2⟩ | ⟨a, b⟩
  · rw [tkD_lt2 a, tkD_lt2 b] at h
    injection h with h
    injection h with h1 h
    injection h with h2 h
    obtain ⟨hx, ho⟩ := oidD_inj h1
    exact key_of hf ho (by rw [baseK_no (.inl (Int.lt_trans a (by decide))), baseK_no (.inl (Int.lt_trans b (by decide)))]) (names_yes (kl_yes (int014 (f_range n).1 a)) (kl_yes (int014 (f_range m).1 b)) h2) hx
  · rw [tkD_lt4 a1 a2, tkD_lt4 b1 b2] at h
    have fin : (n.fdiv 144).fmod 2 = (m.fdiv 144).fmod 2 → oidB n = oidB m → keyD n = keyD m := fun hx ho =>
      key_of hf ho (by rw [baseK_no (.inl a2), baseK_no (.inl b2)]) (names_no (kl_23 a1 a2) (kl_23 b1 b2)) hx
    rcases fm2 (n.fdiv 144) with x | x <;> rcases fm2 (m.fdiv 144) with y | y <;> rw [x, y] at h <;> have h := D.tup.inj h
    · exact fin (x.trans y.symm) (Array.toList_inj.mp (map_int_inj h))
    · exact (map_apart (oidS_len m) h.symm).elim
    · exact (map_apart (oidS_len n) h).elim
    · exact fin (x.trans y.symm) (oidB_same (oidS_inj (map_str_inj h)) (x.trans y.symm))
  · rcases int48 a (f_range n).2 with q | q | q | q
    · have q' : m.fmod 8 = 4 := b ▸ q
      rw [tkD_4 q, tkD_4 q'] at h
      injection h with h
      injection h with _ h
      injection h with h _
      injection h with h
      injection h with h1 h
      injection h with h2 h
      injection h with h3 h
      obtain ⟨hx, ho⟩ := oidD_inj h2
      exact key_of hf ho (by rw [base_yes (.inl q), base_yes (.inl q'), D.str.inj h1]) (names_yes (kl_yes (.inr (.inr q))) (kl_yes (.inr (.inr q'))) h3) hx
    · have q' : m.fmod 8 = 5 := b ▸ q
      rw [tkD_5 q, tkD_5 q'] at h
      injection h with h
      injection h with _ h
      injection h with h _
      injection h with h
      injection h with h1 h
      injection h with h2 h
      obtain ⟨hx, ho⟩ := oidD_inj h2
      exact key_of hf ho (by rw [base_yes (.inr (.inl q)), base_yes (.inr (.inl q')), D.str.inj h1]) (names_no (kl_at 5 q rfl) (kl_at 5 q' rfl)) hx
    · have q' : m.fmod 8 = 6 := b ▸ q
      rw [tkD_6 q, tkD_6 q'] at h
      injection h with h
      injection h with _ h
      injection h with h _
      have h := D.tup.inj h
      have e : oidD n = oidD m ∧ baseS n = baseS m := by
        by_cases u : baseS n = Str.ofString "" <;> by_cases v : baseS m = Str.ofString ""
        · rw [if_pos u, if_pos v] at h
          exact ⟨(List.cons.inj h).1, u.trans v.symm⟩
        · rw [if_pos u, if_neg v] at h; cases (List.cons.inj h).2
        · rw [if_neg u, if_pos v] at h; cases (List.cons.inj h).2
        · rw [if_neg u, if_neg v] at h
          exact ⟨(List.cons.inj h).1, D.str.inj (List.cons.inj (List.cons.inj h).2).1⟩
      obtain ⟨hx, ho⟩ := oidD_inj e.1
      exact key_of hf ho (by rw [base_yes (.inr (.inr q)), base_yes (.inr (.inr q')), e.2]) (names_no (kl_at 6 q rfl) (kl_at 6 q' rfl)) hx
    · have q' : m.fmod 8 = 7 := b ▸ q
      rw [tkD_7 q, tkD_7 q'] at h
      obtain ⟨hx, ho⟩ := oidD_inj (List.cons.inj (D.tup.inj h)).1
      exact key_of hf ho (by rw [baseK_no (.inr q), baseK_no (.inr q')]) (names_no (kl_at 7 q rfl) (kl_at 7 q' rfl)) hx
end Mine
namespace Mine
section
variable {prog : Program} {w : World} {A : Around} {E : Value → Shared → Prop} {s : Shared} {d it : Addr} {es : Array DictEntry} {ep i : Nat} {od : Obj}
/-- a dict's iterator is made -/
theorem dk_iter {Q : Value → Shared → Prop} (hd : (d == sysModules) = false) (hod : s.heap.get? d = some od) (hc : od.cls = .type "dict") (hdd : od.data = .dict es ep)
    (hQ : Q (.ref s.heap.objs.size) { s with heap := s.heap.push { cls := .type "dict_keyiterator", data := .fields #[.ref d, .int 0 0, .int es.size 0, .int ep 0] } }) : wpAny (model prog w) A (pyIter (.ref d)) Q E s := by
  have hT : s.TypeIs (.ref d) "dict" := ⟨od, hod, hc⟩
  refine wpAny_pyIter_slot hT F.slot_dict_iter (wpAny_call_entry F.slot_dict_iter hT F.entry_dict_iter ?_ (F.args_dict_iter_1 _))
  unfold Builtin.«dict.__iter__»
  refine wpAny_bind ?_
  unfold Builtin.Dict.dictSlotNone
  refine wpAny_bind (wpAny_notOrdered_dict hT ?_)
  refine wpAny_pure ?_
  show wpAny _ _ (Builtin.Dict.showsAll d >>= _) _ _ s
  unfold Builtin.Dict.showsAll
  rw [if_neg (by rw [hd]; exact Bool.false_ne_true)]
  refine wpAny_bind (wpAny_pure (wpAny_bind (wpAny_dictEntries hod hdd (wpAny_bind (wpAny_dictEpoch hod hdd ?_)))))
  refine wpAny_bind (wpAny_newObj_type (wpAny_pure ⟨_, rfl, "dict_keyiterator", _, ⟨_, Heap.get?_push_size _ rfl, rfl⟩, F.slot_dict_keyiterator_next.lookup, ?_⟩))
  simpa [rawInt] using hQ
theorem dk_item {Q : Option Value → Shared → Prop} {e : DictEntry} (hit : s.heap.IsKeyIter it d i es.size ep) (hod : s.heap.get? d = some od) (hdd : od.data = .dict es ep) (hx : es[i]? = some e)
    (hQ : ∀ h', h'.IsKeyIter it d (i + 1) es.size ep → Heap.SameBut it s.heap h' → Q (some e.key) { s with heap := h' }) : wpAny (model prog w) A (pyNext (.ref it)) Q E s := by
  obtain ⟨o, ho, hc, hd⟩ := id hit
  have hT := hit.typeIs
  unfold pyNext
  refine wpAny_bind (wpAny_attempt (wpAny_callSpecial?_slot (name := Str.ofString "__next__") hT F.slot_dict_keyiterator_next
    (wpAny_call_entry F.slot_dict_keyiterator_next hT F.entry_dict_keyiterator_next ?_ (F.args_dict_keyiterator_next_1 _))))
  refine wpAny_bind (wpAny_pure (wpAny_bind (wpAny_bind ?_)))
  refine wpAny_bind (wpAny_typeNameOfWhole_keyiter hT (wpAny_pure ?_))
  refine wpAny_bind (wpAny_fieldsOf ho hd ?_)
  simp only [show Builtin.Dict_items.ownsTuple "dict_keyiterator" = false by decide, Bool.false_eq_true, if_false]
  show wpAny _ _ (if (Value.ref d == Value.none) = true then _ else _) _ _ s
  rw [if_neg (show ¬ ((Value.ref d == Value.none) = true) from Bool.false_ne_true)]
  refine wpAny_bind (wpAny_pure (wpAny_bind (wpAny_dictEntries hod hdd ?_)))
  rw [if_neg (by simp)]
  refine wpAny_bind (wpAny_pure (wpAny_bind (wpAny_dictEpoch hod hdd ?_)))
  rw [if_neg (by simp)]
  refine wpAny_pure ?_
  simp only [show ¬ ((i : Int) < 0) from by omega, if_false, Int.toNat_natCast, hx]
  refine wpAny_bind (wpAny_bind (wpAny_typeNameOfWhole_keyiter hT (wpAny_pure ?_)))
  refine wpAny_bind (wpAny_isOneOf_keyiter hT ?_)
  show wpAny _ _ (setField (.ref it) 1 (rawInt ((i : Int) + 1)) >>= _) _ _ s
  refine wpAny_bind (wpAny_setField ho hd (by simp) ?_)
  have hit' : (s.heap.update it (Obj.mapFields (·.setIfInBounds 1 (rawInt ((i : Int) + 1))))).IsKeyIter it d (i + 1) es.size ep :=
    ⟨_, Heap.get?_update_self _ ho (Obj.isFreed_of_fields (Obj.data_mapFields hd _)), (Obj.cls_mapFields ..).trans hc, by rw [Obj.data_mapFields hd]; simp [rawInt]⟩
  refine wpAny_bind (wpAny_holding ?_)
  refine wpAny_bind (wpAny_isOneOf_keyiter (s := { s with heap := s.heap.update it (Obj.mapFields (·.setIfInBounds 1 (rawInt ((i : Int) + 1)))) }) hit'.typeIs ?_)
  exact wpAny_pure (wpAny_pure ⟨_, rfl, wpAny_pure (hQ _ hit' (Heap.SameBut.update ..))⟩)
theorem dk_end {Q : Option Value → Shared → Prop} (hh : A.handled = none) (hit : s.heap.IsKeyIter it d i es.size ep) (hod : s.heap.get? d = some od) (hdd : od.data = .dict es ep) (hx : es[i]? = none)
    (hQ : ∀ h', Heap.ExtBut it s.heap h' → Q none { s with heap := h' }) : wpAny (model prog w) A (pyNext (.ref it)) Q E s := by
  obtain ⟨o, ho, hc, hd⟩ := id hit
  have hT := hit.typeIs
  unfold pyNext
  refine wpAny_bind (wpAny_attempt (wpAny_callSpecial?_slot (name := Str.ofString "__next__") hT F.slot_dict_keyiterator_next
    (wpAny_call_entry F.slot_dict_keyiterator_next hT F.entry_dict_keyiterator_next ?_ (F.args_dict_keyiterator_next_1 _))))
  refine wpAny_bind (wpAny_pure (wpAny_bind (wpAny_bind ?_)))
  refine wpAny_bind (wpAny_typeNameOfWhole_keyiter hT (wpAny_pure ?_))
  refine wpAny_bind (wpAny_fieldsOf ho hd ?_)
  simp only [show Builtin.Dict_items.ownsTuple "dict_keyiterator" = false by decide, Bool.false_eq_true, if_false]
  show wpAny _ _ (if (Value.ref d == Value.none) = true then _ else _) _ _ s
  rw [if_neg (show ¬ ((Value.ref d == Value.none) = true) from Bool.false_ne_true)]
  refine wpAny_bind (wpAny_pure (wpAny_bind (wpAny_dictEntries hod hdd ?_)))
  rw [if_neg (by simp)]
  refine wpAny_bind (wpAny_pure (wpAny_bind (wpAny_dictEpoch hod hdd ?_)))
  rw [if_neg (by simp)]
  refine wpAny_pure ?_
  simp only [show ¬ ((i : Int) < 0) from by omega, if_false, Int.toNat_natCast, hx]
  refine wpAny_bind (wpAny_bind (wpAny_typeNameOfWhole_keyiter hT (wpAny_pure ?_)))
  show wpAny _ _ (setField (.ref it) 0 .none >>= _) _ _ s
  refine wpAny_bind (wpAny_setField ho hd (by simp) ?_)
  show wpAny _ _ (newExc (.type "StopIteration") [] >>= _) _ _ _
  refine wpAny_bind ?_
  simp only [newExc, newTuple]
  refine wpAny_bind (wpAny_newObj_type ?_ (by size_fits))
  refine wpAny_bind (m := firstArgMember _ _) (wpAny_of_eq (a := Value.none) (by first | rfl | (simp only [firstArgMember]; rfl)) ?_)
  refine wpAny_newObj_type ?_ (by size_fits)
  simp only [raiseNew]
  refine wpAny_bind (wpAny_handled ?_)
  rw [show A.in1.handled = none from hh]
  refine wpAny_bind (wpAny_pure (wpAny_throw ?_))
  refine wpAny_bind (wpAny_isInstance (T := "StopIteration") (b := true) ⟨_, Heap.get?_push_size _ rfl, rfl⟩ isSubtype_stop ?_)
  exact wpAny_pure (hQ _ (((Heap.SameBut.update ..).extBut.push _).push _))
theorem dk_walks {I : Addr} (hh : A.handled = none) (hne : d ≠ I) (hdd : od.data = .dict es ep) :
    Walks prog w A I [I, d] [I] es.size (fun i v => ∃ e, es[i]? = some e ∧ v = e.key) (fun i h => h.IsKeyIter I d i es.size ep ∧ h.get? d = some od) where
  sub := fun b hb => by simp at hb; simp [hb]
  frame := fun _ _ _ st hk => ⟨st.1.at fun o e => hk I (by simp) o e, hk d (by simp) _ st.2⟩
  item := fun i s Q E hi st hQ => by
    have hx : es[i]? = some es[i] := Array.getElem?_eq_getElem hi
    refine dk_item st.1 st.2 hdd hx fun h' hit' hs' => ?_
    exact hQ _ h' s.toks ⟨_, hx, rfl⟩ ⟨hit', hs'.extBut _ _ hne st.2⟩ fun b o hb e => hs'.extBut b o (fun h => hb (by simp [h])) e
  done := fun s Q E st hQ => dk_end hh st.1 st.2 hdd (by simp) fun h' he' => hQ h' s.toks fun b o hb e => he' b o (fun h => hb (by simp [h])) e
  self := fun _ _ _ _ st hQ => wpAny_pyIter_keyiter st.1 hQ
end
end Mine
namespace Mine
open Classical
open PyProof.Rows.LCg
def AllGood (l : List (Addr × Obj)) : Prop := ∀ p ∈ l, GoodO p.2
theorem good_all (l : List (Addr × Obj)) : AllGood (good l) := fun _ hp => (good_of hp).2
theorem good_sub {a b : List (Addr × Obj)} (h : ∀ p ∈ a, p ∈ b) (g : AllGood a) : ∀ p ∈ a, p ∈ good b := fun p hp => good_mem (h p hp) (g p hp)
/-- what is not of the good kinds lies apart from what is -/
theorem apart_bad {h₀ h : Heap} {L a : Addr} {nw l : List (Addr × Obj)} {o : Obj} (N : News h₀ L h l) (hn : ∀ p ∈ nw, p ∈ l) (G : AllGood nw) (hm : (a, o) ∈ l) (hb : ¬ GoodO o) : ∀ p ∈ nw, p.1 ≠ a := fun p hp q => by
  have e1 := (N p (hn p hp)).1
  have e2 := (N _ hm).1
  rw [q, e2] at e1
  have e3 : o = p.2 := Option.some.inj e1
  exact hb (e3 ▸ G p hp)
theorem bad_cell {o : Obj} {v : Option Value} (h : o.data = .cell v) : ¬ GoodO o := by
  rintro (⟨_, _, _, e⟩ | ⟨C, dx, rfl⟩ | ⟨es, k, v', rfl, _⟩ | ⟨v', vs, k, rfl, _⟩)
  · rw [h] at e; cases e
  · cases h
  · cases h
  · cases h
theorem bad_fields {o : Obj} {vs : Array Value} (h : o.data = .fields vs) : ¬ GoodO o := by
  rintro (⟨_, _, _, e⟩ | ⟨C, dx, rfl⟩ | ⟨es, k, v', rfl, _⟩ | ⟨v', vs, k, rfl, _⟩)
  · rw [h] at e; cases e
  · cases h
  · cases h
  · cases h
theorem getL_ns {es : List DictEntry} {name : Str} {v : Value} (h : getL name es = some (some v)) : nsFind es.toArray name = some v := by
  rw [getL_eq] at h
  unfold nsFind findBy
  rw [List.find?_toArray]
  cases e : es.find? (·.key.isStr name) with
  | none => rw [e] at h; simp only [Option.map_none] at h; split at h <;> cases h
  | some y => rw [e] at h; simpa using h
theorem bad_ns {o : Obj} {m : Str → Option Value} (h : NsObj o m) (e : m "oid" = none) : ¬ GoodO o := by
  obtain ⟨es, ep, hd, _, hf⟩ := h
  rintro (⟨_, _, _, q⟩ | ⟨C, dx, rfl⟩ | ⟨es', k, v', rfl, q⟩ | ⟨v', vs, k, rfl, _⟩)
  · rw [hd] at q; cases q
  · cases hd
  · injection hd with h1 h2
    have := hf "oid"
    rw [← h1, e, getL_ns q] at this
    cases this
  · cases hd
/-- a list whose first item is no text but 'refused', and no bytes -/
def NoTxt (vs : List Value) : Prop := ∀ v r, vs = v :: r → (∀ x t, v = .str x t → x = Str.ofString "refused") ∧ ∀ x t, v ≠ .bytes x t
theorem bad_list {vs : List Value} {k : Nat} (h : NoTxt vs) : ¬ GoodO (listOf vs.toArray k) := by
  rintro (⟨q, _⟩ | ⟨C, dx, q⟩ | ⟨es', k, v', q, _⟩ | ⟨v', vs', k, q, z⟩)
  · exact absurd (Value.type.inj q) (by decide)
  · cases q
  · exact absurd (Value.type.inj (congrArg Obj.cls q)) (by decide)
  · have e1 := congrArg Obj.data q
    injection e1 with e1 e2
    have e3 : vs = v' :: vs' := by
      have := congrArg Array.toList e1
      simpa using this
    obtain ⟨h1, h2⟩ := h _ _ e3
    rcases z with ⟨x, t, e, n⟩ | ⟨x, t, e⟩
    · exact n (h1 x t e)
    · exact h2 x t e
theorem noTxt_nil : NoTxt [] := fun _ _ h => by cases h
theorem noTxt_all {vs : List Value} (h : ∀ v ∈ vs, (∀ x t, v = .str x t → x = Str.ofString "refused") ∧ ∀ x t, v ≠ .bytes x t) : NoTxt vs := fun v r e => h v (e ▸ List.mem_cons_self)

section
variable {prog : Program} {w : World} {A : Around} {E : Value → Shared → Prop} {s : Shared} {h₀ : Heap} {L : Addr} {m : Str → Option Value} {env : Env}
/-- the end of one turn of a block -/
def LcEnd (h₀ : Heap) (L : Addr) (m : Str → Option Value) (mt : List (Addr × Obj)) (I : Addr) (oI : Obj) (C : Addr) (oC : Obj) (D : Addr) (oD : Obj) (s₁ : Shared) (J : Value → List (Addr × Obj) → Prop) (y : Value) (s₂ : Shared) : Prop :=
  ∃ h' tk nw', s₂ = { s₁ with heap := h', toks := tk } ∧ Fr h₀ L h' m ∧ News h₀ L h' ((I, oI) :: (C, oC) :: (D, oD) :: (mt ++ nw')) ∧ AllGood nw' ∧ J y nw'
/-- one turn of a block: the tests, the element -/
def LcTurn (prog : Program) (w : World) (A : Around) (h₀ : Heap) (L : Addr) (m : Str → Option Value) (env : Env) (ifs : List Expr) (elt : Expr) (x : Str) (scope : Scope) (cl : List (Str × Addr)) (mt : List (Addr × Obj)) (J : Nat → List Value → List (Addr × Obj) → Prop) (n : Nat) (P : Nat → Value → Prop) (s₁ : Shared) : Prop :=
  ∀ i v ys nw I oI C oC m₂ D h tk (E' : Value → Shared → Prop), i < n → P i v → J i ys nw → AllGood nw → NsObj oC m₂ → m₂ x = some v → Fr h₀ L h m → News h₀ L h ((I, oI) :: (C, oC) :: (D, lst ys) :: (mt ++ nw)) →
    wpAny (model prog w) A (forIn ifs true fun c r => if r = true then do let ok ← isTrue c (compEnvC scope cl C env) (eval c (compEnvC scope cl C env)); pure (ForInStep.yield ok) else pure (ForInStep.yield r)) (fun ok s' =>
      if ok = true then wpAny (model prog w) A (eval elt (compEnvC scope cl C env)) (LcEnd h₀ L m mt I oI C oC D (lst ys) { s₁ with heap := h, toks := tk } fun y nw' => J (i + 1) (ys ++ [y]) nw') E' s'
      else LcEnd h₀ L m mt I oI C oC D (lst ys) { s₁ with heap := h, toks := tk } (fun _ nw' => J (i + 1) ys nw') .none s') E' { s₁ with heap := h, toks := tk }
theorem block_W {elt iter : Expr} {ifs : List Expr} {x : Str} {px : Pos} {scope : Scope} {cl : List (Str × Addr)} {pos : Pos} {s₂ : Shared} {I : Addr} {fp : List Addr} {n : Nat} {P : Nat → Value → Prop} {St : Nat → Heap → Prop} {mt nw₀ : List (Addr × Obj)}
    {J : Nat → List Value → List (Addr × Obj) → Prop} {RR : Value → Addr → Result → Shared → Prop}
    (W : Walks prog w A I fp [I] n P St) (hsz : n ≤ sizeLine) (hIo : ∀ i h, St i h → ∃ o, h.get? I = some o ∧ ¬ GoodO o) (hfp : ∀ b ∈ fp, b = I ∨ ∃ o, (b, o) ∈ mt)
    (hcell : ∀ y ∈ scope.names, y.2 ≠ .cell) (hkind : scope.kind = .function) (hx : scope.names.lookup x = some .local) (hxo : x ≠ "oid") (hst : St 0 s₂.heap) (hIlt : I < s₂.heap.objs.size)
    (F : Fr h₀ L s₂.heap m) (N : News h₀ L s₂.heap (mt ++ nw₀)) (G : AllGood nw₀) (hIL : L ≠ I) (hI₀ : h₀.get? I = none) (off : ∀ p ∈ mt, p.1 ≠ I)
    (hJ : J 0 [] nw₀) (hbad : ∀ i ys nw, J i ys nw → NoTxt ys) (turn : LcTurn prog w A h₀ L m env ifs elt x scope cl mt J n P s₂)
    (hRR : ∀ D C h tk m' ys nw, Fr h₀ L h m → News h₀ L h ((D, lst ys) :: (mt ++ nw)) → AllGood nw → (∀ p ∈ mt, p.1 ≠ D) → J n ys nw → h.Ns C m' → h₀.get? C = none → h₀.get? D = none → C ≠ L → D ≠ L → (∀ p ∈ (D, lst ys) :: (mt ++ nw), p.1 ≠ C) → RR (.ref D) C (.ok .next) { s₂ with heap := h, toks := tk }) :
    wpAny (model prog w) A (newList []) (fun acc s₃ => wpAny (model prog w) A (newFunctionEnv scope env.globals cl [] env.qual none .none (some env)) (fun cenv s₄ =>
      codeAny (model prog w) A (.compStart (.ListComp elt [⟨.Name x px, iter, ifs, 0⟩] scope pos) 0 (.ref I) acc { cenv with scope := relabel scope env }) (RR acc cenv.locals) s₄) E s₃) E s₂ := by
  refine wpAny_newObj_type (wpAny_newFunctionEnv hcell (by intro y hy; simp at hy) (fun h₁ hns₁ hsb₁ => ?_) hkind)
  dsimp only at hns₁ hsb₁ ⊢
  generalize hH2 : s₂.heap.push { cls := .type "list", dict := none, data := .seq ([] : List Value).toArray } = H2 at hns₁ hsb₁ ⊢
  have hC : H2.objs.size = s₂.heap.objs.size + 1 := by rw [← hH2, Heap.size_push]
  generalize hDD : s₂.heap.objs.size = D at hC hIlt ⊢
  generalize hCC : H2.objs.size = C at hC hns₁ hsb₁ ⊢
  have hDC : @Ne Nat D C := by omega
  have hIC : @Ne Nat I C := by have : @LT.lt Nat _ I D := hIlt; omega
  have hID : @Ne Nat I D := by have : @LT.lt Nat _ I D := hIlt; omega
  have below : ∀ b : Addr, b < s₂.heap.objs.size → b ≠ C ∧ b ≠ D := fun b hb => by
    have h1 : @LT.lt Nat _ b D := hDD ▸ hb
    exact ⟨show @Ne Nat b C by omega, show @Ne Nat b D by omega⟩
  have old : ∀ b o, s₂.heap.get? b = some o → h₁.get? b = some o := fun b o e => hsb₁.extBut b o (below b (Heap.lt_size e)).1 (Heap.get?_push_of_some _ (hH2 ▸ Heap.get?_push_of_some _ e))
  have hacc : h₁.get? D = some (lst []) := hsb₁.extBut _ _ hDC (Heap.get?_push_of_some _ (hH2 ▸ hDD ▸ Heap.get?_push_size _ rfl))
  have fresh₀ : ∀ a : Addr, D ≤ a → h₀.get? a = none := fun a ha => by
    cases e : h₀.get? a with
    | none => rfl
    | some o' => have := Heap.lt_size (F.keep a o' e); rw [hDD] at this; exact absurd this (Nat.not_lt.mpr ha)
  have hD₀ : h₀.get? D = none := fresh₀ _ (Nat.le_refl _)
  have hC₀ : h₀.get? C = none := fresh₀ _ (by rw [hC]; exact Nat.le_succ _)
  have hDL : D ≠ L := Ne.symm (below L F.ns.lt).2
  have hCL : C ≠ L := Ne.symm (below L F.ns.lt).1
  have offC : ∀ p ∈ mt, p.1 ≠ C := fun p hp => (below _ (Heap.lt_size (N p (List.mem_append_left _ hp)).1)).1
  have offD : ∀ p ∈ mt, p.1 ≠ D := fun p hp => (below _ (Heap.lt_size (N p (List.mem_append_left _ hp)).1)).2
  have hst₁ : St 0 h₁ := W.frame _ _ _ hst fun b _ o e => old b o e
  obtain ⟨oI₁, hI₁, bI₁⟩ := hIo _ _ hst₁
  obtain ⟨oC₁, hC₁, nC₁⟩ := ns_obj hns₁
  have inA : ∀ {I C D : Addr} {oI oC oD : Obj} {nw : List (Addr × Obj)}, ∀ p ∈ nw, p ∈ (I, oI) :: (C, oC) :: (D, oD) :: (mt ++ nw) := fun p hp => .tail _ (.tail _ (.tail _ (List.mem_append_right _ hp)))
  have inM : ∀ {I C D : Addr} {oI oC oD : Obj} {nw : List (Addr × Obj)}, ∀ p ∈ mt, p ∈ (I, oI) :: (C, oC) :: (D, oD) :: (mt ++ nw) := fun p hp => .tail _ (.tail _ (.tail _ (List.mem_append_left _ hp)))
  have loop : ∀ s₃ : Shared, s₃ = { s₂ with heap := h₁, toks := s₂.toks + ([] : List (Str × Value)).length } →
      codeAny (model prog w) A (.compLoop (.ListComp elt [⟨.Name x px, iter, ifs, 0⟩] scope pos) 0 (.ref I) (.ref D) (compEnvC scope cl C env)) (RR (.ref D) C) s₃ := by
    rintro s₃ rfl
    refine codeAny_compLoop_tests
      (fun k s' => ∃ h' tk i ys m' nw oI oC, s' = { s₂ with heap := h', toks := tk } ∧ i ≤ n ∧ k = n + 1 - i ∧ ys.length ≤ i ∧ St i h' ∧ Fr h₀ L h' m ∧ NsObj oC m' ∧ (∀ y, y ≠ x → m' y = none) ∧ ¬ GoodO oI ∧
        News h₀ L h' ((I, oI) :: (C, oC) :: (D, lst ys) :: (mt ++ nw)) ∧ AllGood nw ∧ J i ys nw) ?_ (n + 1)
      ⟨h₁, _, 0, [], _, nw₀, oI₁, oC₁, rfl, Nat.zero_le _, rfl, Nat.le_refl _, hst₁, F.keeps old, nC₁, fun _ _ => rfl, bI₁, fun p hp => ?_, G, hJ⟩
    · rintro k s' ⟨h', tk, i, ys, m', nw, oI, oC, rfl, hi, rfl, hyl, hst', F', nC', hm', bI, N', G', hJ'⟩
      have hC' := (N' (C, oC) (.tail _ (.head _))).1
      have offI : ∀ p ∈ nw, p.1 ≠ I := apart_bad N' inA G' (.head _) bI
      by_cases hlt : i < n
      · refine W.item i _ _ _ hlt hst' fun v h₂ tk₂ hPv hst₂ hk₂ => ?_
        have kp₂ : ∀ b o, b ≠ I → h'.get? b = some o → h₂.get? b = some o := fun b o hb e => hk₂ b o (by simpa using hb) e
        refine wpAny_assign_Name (wpAny_storeName_local (lookup_relabel_local hx) ((nC'.ns hC').at' fun o e => kp₂ _ o (Ne.symm hIC) e) (fun h₃ hn₃ hs₃ => ?_) (by simp [compEnvC, relabel, hkind]))
        have kp₃ : ∀ b o, b ≠ I → b ≠ C → h'.get? b = some o → h₃.get? b = some o := fun b o hb hc e => hs₃.extBut b o hc (kp₂ b o hb e)
        have hst₃ : St (i + 1) h₃ := W.frame _ _ _ hst₂ fun b hb o e => hs₃.extBut b o (by
          rcases hfp b hb with rfl | ⟨o', hm⟩
          · exact hIC
          · exact offC _ hm) e
        obtain ⟨oI₃, heI, bI₃⟩ := hIo _ _ hst₃
        obtain ⟨oC₃, heC, nC₃⟩ := ns_obj hn₃
        have eC : (fun y => if y = x then some v else m' y) = fun y => if y = x then some v else none := by
          funext y
          by_cases hy : y = x
          · rw [if_pos hy, if_pos hy]
          · rw [if_neg hy, if_neg hy, hm' y hy]
        rw [eC] at nC₃
        have F₃ : Fr h₀ L h₃ m := ⟨F'.ns.at' fun o e => kp₃ _ o hIL (Ne.symm hCL) e, fun b o e => kp₃ b o (fun q => by rw [q, hI₀] at e; cases e) (fun q => by rw [q, hC₀] at e; cases e) (F'.keep b o e), F'.above⟩
        have bC₃ : ¬ GoodO oC₃ := bad_ns nC₃ (if_neg (Ne.symm hxo))
        have offC' : ∀ p ∈ nw, p.1 ≠ C := apart_bad N' inA G' (.tail _ (.head _)) (by
          refine bad_ns nC' (hm' _ (Ne.symm hxo)))
        have N₃ : News h₀ L h₃ ((I, oI₃) :: (C, oC₃) :: (D, lst ys) :: (mt ++ nw)) := fun p hp => by
          rcases List.mem_cons.mp hp with rfl | hp
          · exact ⟨heI, Ne.symm hIL, hI₀⟩
          · rcases List.mem_cons.mp hp with rfl | hp
            · exact ⟨heC, hCL, hC₀⟩
            · rcases List.mem_cons.mp hp with rfl | hp
              · have z := N' (D, lst ys) (.tail _ (.tail _ (.head _)))
                exact ⟨kp₃ _ _ (Ne.symm hID) hDC z.1, z.2⟩
              · have z := N' p (.tail _ (.tail _ (.tail _ hp)))
                refine ⟨kp₃ _ _ ?_ ?_ z.1, z.2⟩
                · rcases List.mem_append.mp hp with hp | hp
                  · exact off p hp
                  · exact offI p hp
                · rcases List.mem_append.mp hp with hp | hp
                  · exact offC p hp
                  · exact offC' p hp
        have stay : ∀ {h₄ : Heap} {oI₄ : Obj} {nw₄ : List (Addr × Obj)}, oI₄ = oI₃ → News h₀ L h₄ ((I, oI₄) :: (C, oC₃) :: (D, lst ys) :: (mt ++ nw₄)) → St (i + 1) h₄ := fun e N₄ => W.frame _ _ _ hst₃ fun b hb o e' => by
          subst e
          rcases hfp b hb with rfl | ⟨o', hm⟩
          · rw [heI] at e'; cases e'; exact (N₄ _ (.head _)).1
          · have z := (N₃ _ (inM _ hm)).1
            rw [e'] at z; cases z
            exact (N₄ _ (inM _ hm)).1
        refine wpAny_mono (turn i v ys nw I oI₃ C oC₃ _ D h₃ _ _ hlt hPv hJ' G' nC₃ (if_pos rfl) F₃ N₃) (fun ok s₄ h₄ => ?_) fun _ _ e => e
        cases ok with
        | false =>
          simp only [Bool.false_eq_true, if_false] at h₄ ⊢
          obtain ⟨h₄, tk₄, nw₄, rfl, F₄, N₄, G₄, J₄⟩ := h₄
          exact ⟨n + 1 - (i + 1), by omega, h₄, tk₄, i + 1, ys, _, nw₄, oI₃, oC₃, rfl, hlt, rfl, by omega, stay rfl N₄, F₄, nC₃, fun y hy => if_neg hy, bI₃, N₄, G₄, J₄⟩
        | true =>
          simp only [if_true] at h₄ ⊢
          refine wpAny_mono h₄ (fun y s₅ h₅ => ?_) fun _ _ e => e
          obtain ⟨h₄, tk₄, nw₄, rfl, F₄, N₄, G₄, J₄⟩ := h₅
          have zD := (N₄ (D, lst ys) (.tail _ (.tail _ (.head _)))).1
          have hb := hbad _ _ _ hJ'
          have offD' : ∀ p ∈ nw₄, p.1 ≠ D := apart_bad N₄ inA G₄ (.tail _ (.tail _ (.head _))) (bad_list hb)
          refine append_at (hsz := by show ys.toArray.size ≤ sizeLine; rw [List.size_toArray]; exact Nat.le_trans (Nat.le_trans hyl hi) hsz) zD fun h₅ hs₅ hD₅ => ?_
          refine ⟨n + 1 - (i + 1), by omega, h₅, tk₄, i + 1, ys ++ [y], _, nw₄, oI₃, oC₃, rfl, hlt, rfl, by rw [List.length_append, List.length_singleton]; omega, ?_, F₄.change hs₅ hDL hD₀, nC₃, fun y hy => if_neg hy, bI₃, fun p hp => ?_, G₄, J₄⟩
          · refine W.frame _ _ _ (stay rfl N₄) fun b hb o e => hs₅.extBut b o ?_ e
            rcases hfp b hb with rfl | ⟨o', hm⟩
            · exact hID
            · exact offD _ hm
          · rcases List.mem_cons.mp hp with rfl | hp
            · exact ⟨hs₅.extBut _ _ hID (N₄ _ (.head _)).1, (N₄ _ (.head _)).2⟩
            · rcases List.mem_cons.mp hp with rfl | hp
              · exact ⟨hs₅.extBut _ _ (Ne.symm hDC) (N₄ _ (.tail _ (.head _))).1, (N₄ _ (.tail _ (.head _))).2⟩
              · rcases List.mem_cons.mp hp with rfl | hp
                · exact ⟨hD₅.trans (congrArg some (lst_snoc ys y)), hDL, hD₀⟩
                · have z := N₄ p (.tail _ (.tail _ (.tail _ hp)))
                  refine ⟨hs₅.extBut _ _ ?_ z.1, z.2⟩
                  rcases List.mem_append.mp hp with hp | hp
                  · exact offD p hp
                  · exact offD' p hp
      · obtain rfl : i = n := Nat.le_antisymm hi (Nat.not_lt.mp hlt)
        refine W.done _ _ _ hst' fun h₂ tk₂ hk₂ => ?_
        have kp₂ : ∀ b o, b ≠ I → h'.get? b = some o → h₂.get? b = some o := fun b o hb e => hk₂ b o (by simpa using hb) e
        have offC' : ∀ p ∈ nw, p.1 ≠ C := apart_bad N' inA G' (.tail _ (.head _)) (bad_ns nC' (hm' _ (Ne.symm hxo)))
        refine hRR D C h₂ tk₂ m' ys nw ⟨F'.ns.at' fun o e => kp₂ _ o hIL e, fun b o e => kp₂ b o (fun q => by rw [q, hI₀] at e; cases e) (F'.keep b o e), F'.above⟩ (fun p hp => ?_) G' offD hJ' ((nC'.ns hC').at' fun o e => kp₂ _ o (Ne.symm hIC) e) hC₀ hD₀ hCL hDL fun p hp => ?_
        · have z := N' p (.tail _ (.tail _ hp))
          refine ⟨kp₂ _ _ ?_ z.1, z.2⟩
          rcases List.mem_cons.mp hp with rfl | hp
          · exact Ne.symm hID
          · rcases List.mem_append.mp hp with hp | hp
            · exact off p hp
            · exact offI p hp
        · rcases List.mem_cons.mp hp with rfl | hp
          · exact hDC
          · rcases List.mem_append.mp hp with hp | hp
            · exact offC p hp
            · exact offC' p hp
    · rcases List.mem_cons.mp hp with rfl | hp
      · exact ⟨hI₁, Ne.symm hIL, hI₀⟩
      · rcases List.mem_cons.mp hp with rfl | hp
        · exact ⟨hC₁, hCL, hC₀⟩
        · rcases List.mem_cons.mp hp with rfl | hp
          · exact ⟨hacc, hDL, hD₀⟩
          · exact ⟨old _ _ (N p hp).1, (N p hp).2⟩
  exact codeAny_compStart_list (loop _ rfl) (W.self 0 _ _ _ hst₁ (loop _ rfl))
end
end Mine
namespace Mine
open Classical
open PyProof.Rows.LCg
/-- where a loop's or a block's items come from -/
inductive SrcOk (s₁ : Shared) : Value → Nat → (Nat → Value → Prop) → List (Addr × Obj) → Prop
  | list {ax : Addr} {vs : List Value} {k : Nat} : SrcOk s₁ (.ref ax) vs.length (fun i v => vs[i]? = some v) [(ax, listOf vs.toArray k)]
  | range {r : Addr} {a b : Int} {t u v : Tok} {n : Nat} : IsRange s₁.heap r a b 1 t u v → Builtin.Range.small a b 1 = true → Builtin.Range.rangeSize a b 1 = ((n : Nat) : Int) → SrcOk s₁ (.ref r) n (fun i v => ∃ t, v = .int (a + (i : Int)) t) []
  | dict {d : Addr} {od : Obj} {es : Array DictEntry} {ep : Nat} : od.cls = .type "dict" → od.data = .dict es ep → (d == sysModules) = false → SrcOk s₁ (.ref d) es.size (fun i v => ∃ e, es[i]? = some e ∧ v = e.key) [(d, od)]
section
variable {prog : Program} {w : World} {A : Around} {E : Value → Shared → Prop} {s : Shared} {h₀ : Heap} {L : Addr} {m : Str → Option Value} {env : Env}
theorem src_iter {xv : Value} {n : Nat} {P : Nat → Value → Prop} {src mt nw : List (Addr × Obj)} {Q : Value → Shared → Prop} (S : SrcOk s xv n P src) (hh : A.handled = none) (N : News h₀ L s.heap (mt ++ nw)) (hs : ∀ p ∈ src, p ∈ mt)
    (k : ∀ fp St o, Walks prog w A s.heap.objs.size fp [s.heap.objs.size] n P St → (∀ i h, St i h → ∃ o, h.get? s.heap.objs.size = some o ∧ ∃ vs, o.data = .fields vs) → (∀ b ∈ fp, b = s.heap.objs.size ∨ ∃ o, (b, o) ∈ src) → o.isFreed = false → St 0 (s.heap.push o) → Q (.ref s.heap.objs.size) { s with heap := s.heap.push o }) :
    wpAny (model prog w) A (pyIter xv) Q E s := by
  cases S with
  | @list ax vs k' =>
    have z := (N _ (List.mem_append_left _ (hs _ (List.mem_singleton.mpr rfl)))).1
    have hl : s.heap.IsList ax vs.toArray := ⟨_, z, rfl, _, rfl⟩
    refine wpAny_pyIter_list hl ?_
    have W : Walks prog w A s.heap.objs.size [s.heap.objs.size, ax] [s.heap.objs.size] vs.length (fun i v => vs[i]? = some v) (fun i h => h.IsListIter s.heap.objs.size ax i ∧ h.IsList ax vs.toArray) := by
      simpa using Walks.list (prog := prog) (w := w) hh s.heap.objs.size ax (Nat.ne_of_lt (Heap.lt_size z)) vs.toArray
    refine k _ _ _ W (fun i h st => ?_) (fun b hb => ?_) rfl ⟨⟨_, Heap.get?_push_size _ rfl, rfl, rfl⟩, hl.push _⟩
    · obtain ⟨o, e, _, hd⟩ := st.1
      exact ⟨o, e, _, hd⟩
    · rcases List.mem_cons.mp hb with rfl | hb
      · exact .inl rfl
      · rw [List.mem_singleton.mp hb]; exact .inr ⟨_, List.mem_singleton.mpr rfl⟩
  | @range r a b t u v n hr hsm hn =>
    refine wpAny_pyIter_range hr hsm ?_
    refine k _ _ _ (range_walks hh a n) (fun i h st => ?_) (fun b hb => .inl (List.mem_singleton.mp hb)) rfl ?_
    · exact ⟨_, (st : h.get? _ = some _), _, rfl⟩
    · show IsRangeIter _ _ _ _ _
      rw [hn]
      simpa using Heap.get?_push_size _ rfl
  | @dict d od es ep hc hdd hsm =>
    have z := (N _ (List.mem_append_left _ (hs _ (List.mem_singleton.mpr rfl)))).1
    refine dk_iter hsm z hc hdd ?_
    refine k _ _ _ (dk_walks (od := od) (es := es) (ep := ep) hh (Nat.ne_of_lt (Heap.lt_size z)) hdd) (fun i h st => ?_) (fun b hb => ?_) rfl ⟨⟨_, Heap.get?_push_size _ rfl, rfl, rfl⟩, Heap.get?_push_of_some _ z⟩
    · obtain ⟨o, e, _, hd⟩ := st.1
      exact ⟨o, e, _, hd⟩
    · rcases List.mem_cons.mp hb with rfl | hb
      · exact .inl rfl
      · rw [List.mem_singleton.mp hb]; exact .inr ⟨_, List.mem_singleton.mpr rfl⟩
/-- a block's source, its invariant, its turns, its end -/
def LcIn (prog : Program) (w : World) (A : Around) (h₀ : Heap) (L : Addr) (m : Str → Option Value) (env : Env) (ifs : List Expr) (elt : Expr) (x : Str) (scope : Scope) (cl : List (Str × Addr)) (mF : Addr → Str → Option Value) (QF : Addr → Shared → Prop) (xv : Value) (s₁ : Shared) : Prop :=
  ∃ n P src mt nw₀ J, SrcOk s₁ xv n P src ∧ (∀ p ∈ src, p ∈ mt) ∧ A.handled = none ∧ n ≤ sizeLine ∧ Fr h₀ L s₁.heap m ∧ News h₀ L s₁.heap (mt ++ nw₀) ∧ AllGood nw₀ ∧ J 0 [] nw₀ ∧ (∀ i ys nw, J i ys nw → NoTxt ys) ∧
    LcTurn prog w A h₀ L m env ifs elt x scope cl mt J n P s₁ ∧
    ∀ D h tk ys nw, Fr h₀ L h (mF D) → News h₀ L h ((D, lst ys) :: (mt ++ nw)) → AllGood nw → (∀ p ∈ mt, p.1 ≠ D) → J n ys nw → QF D { s₁ with heap := h, toks := tk }
theorem lc_core {elt iter : Expr} {ifs : List Expr} {x : Str} {px : Pos} {scope : Scope} {cl : List (Str × Addr)} {pos : Pos} {mF : Addr → Str → Option Value} {QF : Addr → Shared → Prop} {RR : Value → Addr → Result → Shared → Prop} {xv : Value}
    (hcell : ∀ y ∈ scope.names, y.2 ≠ .cell) (hkind : scope.kind = .function) (hx : scope.names.lookup x = some .local) (hxo : x ≠ "oid")
    (h : LcIn prog w A h₀ L m env ifs elt x scope cl mF QF xv s)
    (hR : ∀ D C h tk m' all, Fr h₀ L h m → News h₀ L h all → h.Ns C m' → h₀.get? C = none → h₀.get? D = none → C ≠ L → D ≠ L → (∀ p ∈ all, p.1 ≠ C) → (∀ h' tk', Fr h₀ L h' (mF D) → News h₀ L h' all → QF D { s with heap := h', toks := tk' }) → RR (.ref D) C (.ok .next) { s with heap := h, toks := tk }) :
    wpAny (model prog w) A (pyIter xv) (fun it s₂ => wpAny (model prog w) A (newList []) (fun acc s₃ => wpAny (model prog w) A (newFunctionEnv scope env.globals cl [] env.qual none .none (some env)) (fun cenv s₄ =>
      codeAny (model prog w) A (.compStart (.ListComp elt [⟨.Name x px, iter, ifs, 0⟩] scope pos) 0 it acc { cenv with scope := relabel scope env }) (RR acc cenv.locals) s₄) E s₃) E s₂) E s := by
  obtain ⟨n, P, src, mt, nw₀, J, S, hsrc, hh, hsz, F, N, G, hJ, hbad, turn, fin⟩ := h
  refine src_iter S hh N hsrc fun fp St o W hIo hfp hfr hst => ?_
  have up : ∀ b o', s.heap.get? b = some o' → (s.heap.push o).get? b = some o' := fun b o' e => Heap.get?_push_of_some _ e
  refine block_W W hsz (fun i h st => let ⟨o, e, _, hd⟩ := hIo i h st; ⟨o, e, bad_fields hd⟩) (fun b hb => (hfp b hb).imp id fun ⟨o, ho⟩ => ⟨o, hsrc _ ho⟩) hcell hkind hx hxo hst (by show _ < (s.heap.push o).objs.size; rw [Heap.size_push]; exact Nat.lt_succ_self _) (F.keeps up) (N.grown up) G (Nat.ne_of_lt F.ns.lt) (next_is_new F) (fun p hp => Nat.ne_of_lt (Heap.lt_size (N p (List.mem_append_left _ hp)).1)) hJ hbad turn ?_
  intro D C h tk m' ys nw F' N' G' off hJ' hn hC₀ hD₀ hCL hDL hoC
  exact hR D C h tk m' _ F' N' hn hC₀ hD₀ hCL hDL hoC fun h' tk' F₂ N₂ => fin D h' tk' ys nw F₂ N₂ G' off hJ'
theorem LC_W {elt iter : Expr} {ifs : List Expr} {x : Str} {px : Pos} {scope : Scope} {cl : List (Str × Addr)} {pos : Pos} {Q : Value → Shared → Prop}
    (hclos : closureFor scope env = pure cl) (hcell : ∀ y ∈ scope.names, y.2 ≠ .cell) (hkind : scope.kind = .function)
    (hnames : ∀ y ∈ scope.names, y.2 = .local → scope.names.lookup y.1 = some .local) (hx : scope.names.lookup x = some .local) (hxo : x ≠ "oid")
    (h : wpAny (model prog w) A (eval iter env) (LcIn prog w A h₀ L m env ifs elt x scope cl (fun _ => m) (fun D s' => Q (.ref D) s')) E s)
    (hs : ∀ x, foldedSetIterable iter env x = pure x := by intro _; rfl) :
    wpAny (model prog w) A (eval (.ListComp elt [⟨.Name x px, iter, ifs, 0⟩] scope pos) env) Q E s := by
  rw [eval_ListComp]
  refine wpAny_comprehension_free (use := none) rfl hs hclos hkind hnames (wpAny_mono h (fun xv s₁ h₁ => ?_) fun _ _ e => e)
  refine lc_core hcell hkind hx hxo h₁ ?_
  intro D C h tk m' all F' N' hn hC₀ hD₀ hCL hDL hoC fin
  exact ⟨m', hn, fun h'' hs'' => fin h'' tk (F'.change hs'' hCL hC₀) fun p hp => ⟨hs''.extBut _ _ (hoC p hp) (N' p hp).1, (N' p hp).2⟩⟩
theorem ALC_W {elt iter : Expr} {ifs : List Expr} {x y : Str} {px py : Pos} {scope : Scope} {cl : List (Str × Addr)} {pos spos : Pos} {Q : Flow → Shared → Prop} (hLe : env.locals = L)
    (hsw : swapsWith (.ListComp elt [⟨.Name x px, iter, ifs, 0⟩] scope pos) (some (.Name y py)) spos.line env = pure true)
    (hclos : closureFor scope env = pure cl) (hcell : ∀ y ∈ scope.names, y.2 ≠ .cell) (hkind : scope.kind = .function)
    (hnames : ∀ y ∈ scope.names, y.2 = .local → scope.names.lookup y.1 = some .local) (hx : scope.names.lookup x = some .local) (hxo : x ≠ "oid")
    (hy : env.kindOf y = some .local) (hp : (env.scope.kind == .class || (env.scope.kind == .module && env.locals != env.globals)) = false)
    (h : wpAny (model prog w) A (eval iter env) (LcIn prog w A h₀ L m env ifs elt x scope cl (fun D z => if z = y then some (.ref D) else m z) (fun _ s' => Q .next s')) E s)
    (hs : ∀ x, foldedSetIterable iter env x = pure x := by intro _; rfl) :
    wpAny (model prog w) A (exec (.Assign [.Name y py] (.ListComp elt [⟨.Name x px, iter, ifs, 0⟩] scope pos) spos) env) Q E s := by
  subst hLe
  rw [exec_Assign_Name_used _ _ _ _ hsw]
  refine wpAny_bind (wpAny_standAt (wpAny_bind ?_))
  show wpAny _ A (do let _ ← comprehension (.ListComp elt [⟨.Name x px, iter, ifs, 0⟩] scope pos) scope env _ (newList []) false (eval iter env) (some (assign (.Name y py) env))) _ _ s
  refine wpAny_bind (wpAny_mono (wpAny_comprehension_free (use := some (assign (.Name y py) env)) (Q := fun _ s' => Q .next s') rfl hs hclos hkind hnames
    (wpAny_mono h (fun xv s₁ h₁ => ?_) fun _ _ e => e)) (fun _ s' hq => wpAny_pure (wpAny_pure hq)) fun _ _ e => e)
  refine lc_core hcell hkind hx hxo h₁ ?_
  intro D C h tk m' all F' N' hn hC₀ hD₀ hCL hDL hoC fin
  show wpAny _ A (assign (.Name y py) env (.ref D)) _ _ _
  refine wpAny_assign_Name (wpAny_storeName_local hy F'.ns (fun h₂ hn₂ hs₂ => ?_) hp)
  have hL₀ : h₀.get? env.locals = none := Heap.get?_none_of_le F'.above
  have F₂ : Fr h₀ env.locals h₂ (fun z => if z = y then some (.ref D) else m z) := ⟨hn₂, fun b o e => hs₂.extBut b o (fun q => by rw [q, hL₀] at e; cases e) (F'.keep b o e), F'.above⟩
  refine ⟨m', hn.sameBut hs₂ hCL, fun h'' hs'' => fin h'' _ (F₂.change hs'' hCL hC₀) fun p hp => ?_⟩
  exact ⟨hs''.extBut _ _ (hoC p hp) (hs₂.extBut _ _ (N' p hp).2.1 (N' p hp).1), (N' p hp).2⟩
/-- a cell's entry changes -/
inductive UpdC (c : Addr) (o : Obj) : List (Addr × Obj) → (Obj → List (Addr × Obj)) → Prop
  | head {r : List (Addr × Obj)} : (∀ p ∈ r, p.1 ≠ c ∨ ∀ v, p.2.data ≠ .cell v) → UpdC c o ((c, o) :: r) (fun o' => (c, o') :: r)
  | tail {p : Addr × Obj} {r : List (Addr × Obj)} {g : Obj → List (Addr × Obj)} : (p.1 ≠ c ∨ ∀ v, p.2.data ≠ .cell v) → UpdC c o r g → UpdC c o (p :: r) (fun o' => p :: g o')
theorem apartOr_of {c : Addr} : ∀ {l : List (Addr × Obj)}, (∀ p ∈ l, p.1 ≠ c ∨ ∀ v, p.2.data ≠ .cell v) → ApartOr c l
  | [], _ => trivial
  | _ :: _, h => ⟨h _ (.head _), apartOr_of fun p hp => h p (.tail _ hp)⟩
theorem UpdC.split {c : Addr} {o : Obj} {l : List (Addr × Obj)} {g : Obj → List (Addr × Obj)} (U : UpdC c o l g) : ∃ own rest, l = own ++ (c, o) :: rest ∧ (∀ o', g o' = own ++ (c, o') :: rest) ∧ ApartOr c own ∧ ApartOr c rest := by
  induction U with
  | head h => exact ⟨[], _, rfl, fun _ => rfl, trivial, apartOr_of h⟩
  | tail h _ ih =>
    obtain ⟨own, rest, rfl, hg, h1, h2⟩ := ih
    exact ⟨_ :: own, rest, rfl, fun o' => congrArg _ (hg o'), ⟨h, h1⟩, h2⟩
theorem good_noCell {nw : List (Addr × Obj)} {c : Addr} (G : AllGood nw) : ∀ p ∈ nw, p.1 ≠ c ∨ ∀ v, p.2.data ≠ .cell v := fun p hp => .inr fun _ e => bad_cell e (G p hp)
theorem storeC_W {M : Model} {name x : Str} {scope : Scope} {a c : Addr} {cd v : Value} {all : List (Addr × Obj)} {g : Obj → List (Addr × Obj)} {o : Obj} {v₀ : Option Value} {Q : Unit → Shared → Prop} (F : Fr h₀ L s.heap m) (N : News h₀ L s.heap all) (hc : (cellsFrom (L + 1) scope.names []).lookup x = some c) (U : UpdC c o all g) (hd : o.data = .cell v₀)
    (h : ∀ h' o', Fr h₀ L h' m → News h₀ L h' (g o') → o'.data = .cell (some v) → Q () { s with heap := h' })
    (hk : scope.kind = .function) (hl : (envOfC name scope L a cd).kindOf x = some .cell) : wpAny M A (storeName (envOfC name scope L a cd) x v) Q E s := by
  obtain ⟨own, rest, rfl, hg, h1, h2⟩ := U.split
  exact stCNk F N hc hd h1 h2 (fun h' o' F' N' d' => h h' o' F' (by rw [hg]; exact N') d') hk hl
theorem LC_F {elt iter : Expr} {ifs : List Expr} {x : Str} {px : Pos} {scope : Scope} {cl : List (Str × Addr)} {pos : Pos} {Q : Value → Shared → Prop} (_ : Fr h₀ L s.heap m)
    (hclos : closureFor scope env = pure cl) (hcell : ∀ y ∈ scope.names, y.2 ≠ .cell) (hkind : scope.kind = .function)
    (hnames : ∀ y ∈ scope.names, y.2 = .local → scope.names.lookup y.1 = some .local) (hx : scope.names.lookup x = some .local) (hxo : x ≠ "oid")
    (h : wpAny (model prog w) A (eval iter env) (LcIn prog w A h₀ L m env ifs elt x scope cl (fun _ => m) (fun D s' => Q (.ref D) s')) E s)
    (hs : ∀ x, foldedSetIterable iter env x = pure x := by intro _; rfl) :
    wpAny (model prog w) A (eval (.ListComp elt [⟨.Name x px, iter, ifs, 0⟩] scope pos) env) Q E s := LC_W hclos hcell hkind hnames hx hxo h hs
theorem ALC_F {elt iter : Expr} {ifs : List Expr} {x y : Str} {px py : Pos} {scope : Scope} {cl : List (Str × Addr)} {pos spos : Pos} {Q : Flow → Shared → Prop} (_ : Fr h₀ L s.heap m) (hLe : env.locals = L)
    (hsw : swapsWith (.ListComp elt [⟨.Name x px, iter, ifs, 0⟩] scope pos) (some (.Name y py)) spos.line env = pure true)
    (hclos : closureFor scope env = pure cl) (hcell : ∀ y ∈ scope.names, y.2 ≠ .cell) (hkind : scope.kind = .function)
    (hnames : ∀ y ∈ scope.names, y.2 = .local → scope.names.lookup y.1 = some .local) (hx : scope.names.lookup x = some .local) (hxo : x ≠ "oid")
    (hy : env.kindOf y = some .local) (hp : (env.scope.kind == .class || (env.scope.kind == .module && env.locals != env.globals)) = false)
    (h : wpAny (model prog w) A (eval iter env) (LcIn prog w A h₀ L m env ifs elt x scope cl (fun D z => if z = y then some (.ref D) else m z) (fun _ s' => Q .next s')) E s)
    (hs : ∀ x, foldedSetIterable iter env x = pure x := by intro _; rfl) :
    wpAny (model prog w) A (exec (.Assign [.Name y py] (.ListComp elt [⟨.Name x px, iter, ifs, 0⟩] scope pos) spos) env) Q E s := ALC_W hLe hsw hclos hcell hkind hnames hx hxo hy hp h hs
/-- the end of one turn of a loop -/
def ForEnd (h₀ : Heap) (L : Addr) (I : Addr) (oI : Obj) (J : (Str → Option Value) → List (Addr × Obj) → List (Addr × Obj) → Prop) (s₁ : Shared) (f : Flow) (s₂ : Shared) : Prop :=
  (f = .next ∨ f = .cont) ∧ ∃ h' tk m' mt' nw', s₂ = { s₁ with heap := h', toks := tk } ∧ Fr h₀ L h' m' ∧ News h₀ L h' ((I, oI) :: (mt' ++ nw')) ∧ AllGood nw' ∧ (∀ p ∈ mt', p.1 ≠ I) ∧ J m' mt' nw'
/-- a loop's source, its invariant, its turns, its end -/
def ForIn (prog : Program) (w : World) (A : Around) (h₀ : Heap) (L : Addr) (env : Env) (target : Expr) (body : List Stmt) (Q : Flow → Shared → Prop) (xv : Value) (s₁ : Shared) : Prop :=
  ∃ n P src m mt nw, ∃ J : Nat → (Str → Option Value) → List (Addr × Obj) → List (Addr × Obj) → Prop, SrcOk s₁ xv n P src ∧ A.handled = none ∧ Fr h₀ L s₁.heap m ∧ News h₀ L s₁.heap (mt ++ nw) ∧ AllGood nw ∧ J 0 m mt nw ∧ (∀ i m' mt' nw', J i m' mt' nw' → ∀ p ∈ src, p ∈ mt') ∧
    (∀ i v m₁ mt nw I oI h tk (E' : Value → Shared → Prop), i < n → P i v → J i m₁ mt nw → AllGood nw → (∃ vs, oI.data = .fields vs) → Fr h₀ L h m₁ → News h₀ L h ((I, oI) :: (mt ++ nw)) → (∀ p ∈ mt, p.1 ≠ I) →
      wpAny (model prog w) A (assign target env v) (fun _ s₃ => wpAny (model prog w) A (execs body env) (ForEnd h₀ L I oI (J (i + 1)) { s₁ with heap := h, toks := tk }) E' s₃) E' { s₁ with heap := h, toks := tk }) ∧
    ∀ h tk m' mt' nw', Fr h₀ L h m' → News h₀ L h (mt' ++ nw') → AllGood nw' → J n m' mt' nw' → Q .next { s₁ with heap := h, toks := tk }
theorem for_W {target iter : Expr} {body : List Stmt} {pos : Pos} {Q : Flow → Shared → Prop}
    (h : wpAny (model prog w) A (eval iter env) (ForIn prog w A h₀ L env target body Q) E s)
    (ht : ∀ it v, letOwnedTupleGo target it v = pure ()) (hs : ∀ x, foldedSetIterable iter env x = pure x := by intro _; rfl) :
    wpAny (model prog w) A (exec (.For target iter body [] pos) env) Q E s := by
  refine wpAny_For (wpAny_mono h (fun xv s₁ h₁ => ?_) fun _ _ e => e) hs
  obtain ⟨n, P, src, m, mt, nw, J, S, hh, F, N, G, hJ, hsrc, turn, fin⟩ := h₁
  refine src_iter S hh N (hsrc _ _ _ _ hJ) fun fp St o W hIo hfp hfr hst => ?_
  have up : ∀ b o', s₁.heap.get? b = some o' → (s₁.heap.push o).get? b = some o' := fun b o' e => Heap.get?_push_of_some _ e
  have hIL : L ≠ s₁.heap.objs.size := Nat.ne_of_lt F.ns.lt
  have hI₀ : h₀.get? s₁.heap.objs.size = none := next_is_new F
  have off₀ : ∀ p ∈ mt, p.1 ≠ s₁.heap.objs.size := fun p hp => Nat.ne_of_lt (Heap.lt_size (N p (List.mem_append_left _ hp)).1)
  generalize s₁.heap.objs.size = I at *
  obtain ⟨oI₁, hI₁, bI₁⟩ := hIo _ _ hst
  have inA : ∀ {oI : Obj} {mt nw : List (Addr × Obj)}, ∀ p ∈ nw, p ∈ (I, oI) :: (mt ++ nw) := fun p hp => .tail _ (List.mem_append_right _ hp)
  refine codeAny_forLoop_any (fun k s' => ∃ h' tk i m' mt nw oI, s' = { s₁ with heap := h', toks := tk } ∧ i ≤ n ∧ k = n + 1 - i ∧ St i h' ∧ Fr h₀ L h' m' ∧ (∃ vs, oI.data = .fields vs) ∧ News h₀ L h' ((I, oI) :: (mt ++ nw)) ∧ AllGood nw ∧ (∀ p ∈ mt, p.1 ≠ I) ∧ J i m' mt nw) ?_ (n + 1)
    ⟨s₁.heap.push o, _, 0, m, mt, nw, oI₁, rfl, Nat.zero_le _, rfl, hst, F.keeps up, bI₁, fun p hp => ?_, G, off₀, hJ⟩
  · rintro k s' ⟨h', tk, i, m', mt, nw, oI, rfl, hi, rfl, hst', F', bI, N', G', off, hJ'⟩
    have offI : ∀ p ∈ nw, p.1 ≠ I := apart_bad N' inA G' (.head _) (bI.elim fun _ => bad_fields)
    by_cases hlt : i < n
    · refine W.item i _ _ _ hlt hst' fun v h₂ tk₂ hPv hst₂ hk₂ => ?_
      have kp₂ : ∀ b o, b ≠ I → h'.get? b = some o → h₂.get? b = some o := fun b o hb e => hk₂ b o (by simpa using hb) e
      refine wpAny_of_eq (ht _ v) ?_
      obtain ⟨oI₂, heI, bI₂⟩ := hIo _ _ hst₂
      have F₂ : Fr h₀ L h₂ m' := ⟨F'.ns.at' fun o e => kp₂ _ o hIL e, fun b o e => kp₂ b o (fun q => by rw [q, hI₀] at e; cases e) (F'.keep b o e), F'.above⟩
      have N₂ : News h₀ L h₂ ((I, oI₂) :: (mt ++ nw)) := fun p hp => by
        rcases List.mem_cons.mp hp with rfl | hp
        · exact ⟨heI, Ne.symm hIL, hI₀⟩
        · have z := N' p (.tail _ hp)
          refine ⟨kp₂ _ _ ?_ z.1, z.2⟩
          rcases List.mem_append.mp hp with hp | hp
          · exact off p hp
          · exact offI p hp
      refine wpAny_mono (turn i v m' mt nw I oI₂ h₂ _ _ hlt hPv hJ' G' bI₂ F₂ N₂ off) (fun _ s₃ h₃ => wpAny_mono h₃ (fun f s₄ h₄ => ?_) fun _ _ e => e) fun _ _ e => e
      obtain ⟨hf, h₄, tk₄, m₄, mt₄, nw₄, rfl, F₄, N₄, G₄, off₄, J₄⟩ := h₄
      have st₄ : St (i + 1) h₄ := W.frame _ _ _ hst₂ fun b hb o e' => by
        rcases hfp b hb with rfl | ⟨o', hm⟩
        · rw [heI] at e'; cases e'; exact (N₄ _ (.head _)).1
        · have z := (N₂ _ (.tail _ (List.mem_append_left _ (hsrc _ _ _ _ hJ' _ hm)))).1
          rw [e'] at z; cases z
          exact (N₄ _ (.tail _ (List.mem_append_left _ (hsrc _ _ _ _ J₄ _ hm)))).1
      have res : ∃ k, k < n + 1 - i ∧ ∃ h' tk i m' mt nw oI, ({ s₁ with heap := h₄, toks := tk₄ } : Shared) = { s₁ with heap := h', toks := tk } ∧ i ≤ n ∧ k = n + 1 - i ∧ St i h' ∧ Fr h₀ L h' m' ∧ (∃ vs, oI.data = .fields vs) ∧ News h₀ L h' ((I, oI) :: (mt ++ nw)) ∧ AllGood nw ∧ (∀ p ∈ mt, p.1 ≠ I) ∧ J i m' mt nw :=
        ⟨n + 1 - (i + 1), by omega, h₄, tk₄, i + 1, m₄, mt₄, nw₄, oI₂, rfl, hlt, rfl, st₄, F₄, bI₂, N₄, G₄, off₄, J₄⟩
      rcases hf with rfl | rfl
      · exact res
      · exact res
    · obtain rfl : i = n := Nat.le_antisymm hi (Nat.not_lt.mp hlt)
      refine W.done _ _ _ hst' fun h₂ tk₂ hk₂ => ?_
      have kp₂ : ∀ b o, b ≠ I → h'.get? b = some o → h₂.get? b = some o := fun b o hb e => hk₂ b o (by simpa using hb) e
      show wpAny _ _ (execs [] env) _ _ _
      refine wpAny_pure ?_
      refine fin h₂ tk₂ m' mt nw ⟨F'.ns.at' fun o e => kp₂ _ o hIL e, fun b o e => kp₂ b o (fun q => by rw [q, hI₀] at e; cases e) (F'.keep b o e), F'.above⟩ (fun p hp => ?_) G' hJ'
      have z := N' p (.tail _ hp)
      refine ⟨kp₂ _ _ ?_ z.1, z.2⟩
      rcases List.mem_append.mp hp with hp | hp
      · exact off p hp
      · exact offI p hp
  · rcases List.mem_cons.mp hp with rfl | hp
    · exact ⟨hI₁, Ne.symm hIL, hI₀⟩
    · exact ⟨up _ _ (N p hp).1, (N p hp).2⟩
theorem for_F {target iter : Expr} {body : List Stmt} {pos : Pos} {Q : Flow → Shared → Prop} (_ : Fr h₀ L s.heap m)
    (h : wpAny (model prog w) A (eval iter env) (ForIn prog w A h₀ L env target body Q) E s)
    (ht : ∀ it v, letOwnedTupleGo target it v = pure ()) (hs : ∀ x, foldedSetIterable iter env x = pure x := by intro _; rfl) :
    wpAny (model prog w) A (exec (.For target iter body [] pos) env) Q E s := for_W h ht hs
theorem len_W {l : Addr} {vs : List Value} {k : Nat} {all : List (Addr × Obj)} {Q : Value → Shared → Prop} (N : News h₀ L s.heap all) (hm : (l, listOf vs.toArray k) ∈ all) (hl : vs.length ≤ 1000) (h : ∀ t tk, Q (.int (vs.length : Int) t) { s with toks := tk }) : wpAny (model prog w) A (call (.builtin "len") [.ref l]) Q E s :=
  Calls.call_len_list ⟨_, (N _ hm).1, rfl, _, rfl⟩ (by rw [List.size_toArray]; omega) (by rw [List.size_toArray]; exact h _ _)
end
end Mine
namespace Mine
open Classical
open PyProof.Rows.LCg
/-- the law's text, by parts -/
def lawDef : Option Stmt := PySem.Challenge.rw_lo0042_01.prog.main.body.getLast?
def lawB : List Stmt := match lawDef with
  | some (.FunctionDef (body := b) ..) => b
  | _ => []
def lawSc : Scope := match lawDef with
  | some (.FunctionDef (scope := b) ..) => b
  | _ => { kind := .function, names := [], isGenerator := false, isCoroutine := false }
def st1 : List Stmt := match lawB with
  | _ :: a :: _ => [a]
  | _ => []
def st2 : List Stmt := match lawB with
  | _ :: _ :: a :: _ => [a]
  | _ => []
/-- references made of numbers -/
def Refs (nw : List (Addr × Obj)) (ns : List Int) (xs : List Addr) : Prop := xs.length = ns.length ∧ ∀ (j : Nat) (n : Int) (x : Addr), ns[j]? = some n → xs[j]? = some x → RefN nw n x
theorem Refs.mono {nw nw' : List (Addr × Obj)} {ns : List Int} {xs : List Addr} (h : Refs nw ns xs) (hs : ∀ p ∈ nw, p ∈ nw') : Refs nw' ns xs := ⟨h.1, fun j n x a b => (h.2 j n x a b).mono hs⟩
theorem Refs.snoc {nw : List (Addr × Obj)} {ns : List Int} {xs : List Addr} {n : Int} {x : Addr} (h : Refs nw ns xs) (r : RefN nw n x) : Refs nw (ns ++ [n]) (xs ++ [x]) := by
  refine ⟨by simp [h.1], fun j k y a b => ?_⟩
  by_cases hj : j < ns.length
  · rw [List.getElem?_append_left hj] at a
    rw [List.getElem?_append_left (by rw [h.1]; exact hj)] at b
    exact h.2 j k y a b
  · have hj2 : j < (ns ++ [n]).length := (List.getElem?_eq_some_iff.mp a).1
    rw [List.length_append, List.length_singleton] at hj2
    have e : j = ns.length := by omega
    subst e
    rw [List.getElem?_append_right (Nat.le_refl _), Nat.sub_self] at a
    rw [List.getElem?_append_right (Nat.le_of_eq h.1), h.1, Nat.sub_self] at b
    cases a; cases b; exact r
theorem take_snoc {α : Type} {l : List α} {i : Nat} {a : α} (h : l[i]? = some a) : l.take (i + 1) = l.take i ++ [a] := by rw [List.take_add_one, h]; rfl
theorem Refs.in_ {nw : List (Addr × Obj)} {ns : List Int} {xs : List Addr} (h : Refs nw ns xs) {x : Addr} (hx : x ∈ xs) : ∃ dx, (x, instObj 109 dx) ∈ nw := by
  obtain ⟨j, hj⟩ := List.getElem?_of_mem hx
  have hl : j < ns.length := by rw [← h.1]; exact (List.getElem?_eq_some_iff.mp hj).1
  obtain ⟨dx, es, k, t, a, _⟩ := h.2 j _ x (List.getElem?_eq_getElem hl) hj
  exact ⟨dx, a⟩
/-- the cells of the law's frame -/
abbrev cells7 (L : Addr) (o1 o2 o3 o4 o5 o6 o7 : Obj) (r : List (Addr × Obj)) : List (Addr × Obj) :=
  (L + 1 + 1 + 1 + 1 + 1 + 1 + 1, o7) :: (L + 1 + 1 + 1 + 1 + 1 + 1, o6) :: (L + 1 + 1 + 1 + 1 + 1, o5) :: (L + 1 + 1 + 1 + 1, o4) :: (L + 1 + 1 + 1, o3) :: (L + 1 + 1, o2) :: (L + 1, o1) :: r
theorem news_re {h₀ h : Heap} {L : Addr} {v a b nw : List (Addr × Obj)} (N : News h₀ L h nw) (hs : ∀ p ∈ v ++ (a ++ b), p ∈ nw) : News h₀ L h (a ++ good nw) := fun p hp => N p ((List.mem_append.mp hp).elim (fun q => hs p (List.mem_append_right _ (List.mem_append_left _ q))) fun q => (good_of q).1)
theorem noTxt_refs (xs : List Addr) : NoTxt (xs.map Value.ref) := noTxt_all fun v hv => by
  obtain ⟨x, _, rfl⟩ := List.mem_map.mp hv
  exact ⟨fun _ _ e => (by cases e), fun _ _ e => (by cases e)⟩
/-- the facts on the list of references, turn by turn -/
def JM (nw : List (Addr × Obj)) (ns : List Int) (i : Nat) (ys : List Value) (nw' : List (Addr × Obj)) : Prop := (∀ p ∈ nw, p ∈ nw') ∧ ∃ xs : List Addr, ys = xs.map .ref ∧ Refs nw' (ns.take i) xs ∧ xs.Nodup
theorem JM.zero (nw : List (Addr × Obj)) (ns : List Int) : JM nw ns 0 [] nw := ⟨fun _ hp => hp, [], rfl, ⟨rfl, fun j n x a => by simp at a⟩, List.nodup_nil⟩
theorem JM.next {nw nw₁ nw' a v : List (Addr × Obj)} {ns : List Int} {i : Nat} {xs : List Addr} {n : Int} {x : Addr} (hsub : ∀ p ∈ nw, p ∈ nw₁) (hR : Refs nw₁ (ns.take i) xs) (hnd : xs.Nodup) (G : AllGood nw₁) (hn : ns[i]? = some n) (hs : ∀ p ∈ v ++ (a ++ nw₁), p ∈ nw') (R : RefN nw' n x) (hx : ∀ p ∈ v ++ (a ++ nw₁), p.1 ≠ x) :
    JM nw ns (i + 1) (xs.map .ref ++ [.ref x]) (good nw') := by
  have up : ∀ p ∈ nw₁, p ∈ good nw' := good_sub (fun p hp => hs p (List.mem_append_right _ (List.mem_append_right _ hp))) G
  refine ⟨fun p hp => up p (hsub p hp), xs ++ [x], by simp, ?_, ?_⟩
  · rw [take_snoc hn]
    exact (hR.mono up).snoc R.good
  · rw [List.nodup_append]
    refine ⟨hnd, by simp, fun y hy z hz => ?_⟩
    rw [List.mem_singleton.mp hz]
    rintro rfl
    obtain ⟨dx, hm⟩ := hR.in_ hy
    exact hx _ (List.mem_append_right _ (List.mem_append_right _ hm)) rfl
section
variable {w : World} {p : Program} {loose : List Str} {mean : ExcName → Option Value} {mg mb : Str → Option Value} {dp un : Nat} {gd : Option (List Code)} {s : Shared} {h₀ : Heap} {L fa : Addr} {cd : Value} {nm : Str} {sc : Scope} {A₀ : Around} {m : Str → Option Value}
theorem s_made {b : List Stmt} {Q : Flow → Shared → Prop} {E : Value → Shared → Prop} {ns : List Int} {vs : List Value} {ln : Addr} {k : Nat} {nw : List (Addr × Obj)} {o1 o2 o3 o4 o5 o6 o7 : Obj} {v1 : Option Value} (hb : b = st1) (hsc : sc = lawSc)
    (B : Below A₀ h₀ [] h₀) (X : (hd.heap_1 w.params).In h₀) (T : Top p loose mean mg mb h₀) (hdp : dp < 600) (hun : un < 100)
    (hI : IntsAre vs ns) (hlen : vs.length ≤ 5) (F : Fr h₀ L s.heap m) (N : News h₀ L s.heap (cells7 L o1 o2 o3 o4 o5 o6 o7 ((ln, listOf vs.toArray k) :: nw))) (G : AllGood nw) (d1 : o1.data = .cell v1) (hm : m "numbers" = some (.ref ln))
    (hQ : ∀ o1' lm xs k' h' tk' nw', Fr h₀ L h' m → News h₀ L h' (cells7 L o1' o2 o3 o4 o5 o6 o7 [(ln, listOf vs.toArray k), (lm, listOf (xs.map Value.ref).toArray k')] ++ nw') → AllGood nw' → o1'.data = .cell (some (.ref lm)) → Refs nw' ns xs → xs.Nodup → Q .next { s with heap := h', toks := tk' }) :
    wpAny (model PR w) (tA dp un gd (some [envOfC nm sc L fa cd])) (execs b (envOfC nm sc L fa cd)) Q E s := by
  k_with_none
  (k_with "ktr_room" => ((first | k_dflt (exact lt_0 (by assumption) rfl) | k_dflt (exact lt_1 (by assumption) rfl) | ((simp only [depth_under_make, depth_under_kw, depth_in1, depth_deeper, depth_caller, recursionLimit] at *); omega))))
  (k_with "k_room" => ((first | k_dflt (exact lt_0 (by assumption) rfl) | k_dflt (exact lt_1 (by assumption) rfl) | ((simp only [depth_under_make, depth_under_kw, depth_in1, depth_deeper, depth_caller, recursionLimit] at *); omega))))
  (k_with "k_units" => ((first | k_dflt (exact lt_0 (by assumption) rfl) | k_dflt (exact lt_1 (by assumption) rfl) | k_dflt (exact lt_2 (by assumption) rfl) | k_dflt (exact lt_3 (by assumption) rfl) | ((have qhcL9 := cLine_is); (simp only [units_in1, units_deeper, Around.mark_units, units_caller, cLine] at *); omega))))
  (k_with "execs cons" => (((first | (with_reducible show wpAny _ _ _ _ _ (Shared.mk _ _ _ (_ + 1) _)) | (with_reducible show wpAny _ _ _ _ _ (Shared.mk _ _ _ (Shared.toks (Shared.mk _ _ _ _ _)) _))); refine tok_gen (fun tk => ?_))))
  (k_with "k_enter" => ((refine' code_defN ?h190hk2 ?h190hk3 ?h190hk4 ?h190hk5 ?h190hk6 ?h190hk7 ?h190hk8 ?h190hk9 ?h190hkB ?_ ?h190hc2 ?h190hc3 ?h190hc4 ?h190hc5; (case h190hk2 => k_asm); (case h190hk3 => k_asm); (case h190hk4 => k_asm); (case h190hk5 => k_asm); (case h190hk6 => k_is); (case h190hk7 => k_is); (case h190hk8 => k_room); (case h190hk9 => first | exact BindsTo.of_eq rfl | exact binds_K (by k_in) rfl (by k_is) rfl rfl rfl | fail "k_enter: no rule for these arguments"); (case h190hc5 => decide); (case h190hkB => exact locs rfl); (case h190hc2 => exact rfl); (case h190hc3 => exact rfl); (case h190hc4 => exact rfl); k_whole; intro qg' qL' qh' qFG' qF' qN' qX' qT'; (try dsimp only); (try k_fold))))
  (k_with "call ref" => ((k_here; (with_reducible show wpAny _ _ (call (Value.ref 148) [Value.int _ _, Value.bool true]) _ _ _); k_dflt (refine' value_K ?h191hF ?h191hN ?h191hX ?h191hT ?h191hd ?h191hu ?_; (case h191hF => k_asm); (case h191hN => k_asm); (case h191hX => k_asm); (case h191hT => k_asm); (case h191hd => (first | exact lt_0 (by assumption) rfl | exact lt_1 (by assumption) rfl | exact lt_2 (by assumption) rfl | exact lt_3 (by assumption) rfl | ((try dsimp only); omega))); (case h191hu => (first | exact lt_0 (by assumption) rfl | exact lt_1 (by assumption) rfl | exact lt_2 (by assumption) rfl | exact lt_3 (by assumption) rfl | ((try dsimp only); omega))); k_whole); intro qr' qmu' qnv' qh' qtk' qF' qN' qv'; (try k_sweep))))
  (k_with "call ref" => ((k_here; (with_reducible show wpAny _ _ (call (Value.ref 109) [_]) _ _ _); k_dflt (refine' pr_any ?h192hB ?h192hF ?h192hN ?h192hX ?h192hT ?h192hXB ?h192hTB ?h192hD ?h192hhfr ?h192hhef ?h192hhck ?h192hhdp ?h192hhun ?h192hv ?_; (case h192hB => assumption); (case h192hv => assumption); (case h192hF => k_asm); (case h192hN => k_asm); (case h192hX => k_asm); (case h192hT => k_asm); (case h192hXB => assumption); (case h192hTB => assumption); (case h192hD => exact ktsDicts_nil); (case h192hhfr => exact rfl); (case h192hhef => exact rfl); (case h192hhck => exact rfl); (case h192hhdp => (first | exact lt_0 (by assumption) rfl | exact lt_1 (by assumption) rfl | exact lt_2 (by assumption) rfl | exact lt_3 (by assumption) rfl | ((try dsimp only); omega))); (case h192hhun => (first | exact lt_0 (by assumption) rfl | exact lt_1 (by assumption) rfl | exact lt_2 (by assumption) rfl | exact lt_3 (by assumption) rfl | ((try dsimp only); omega))); k_whole); intro qg' qx' qnw' qh' qtk' qT' qF' qN' qhs' qB' qX' qP' qD' qR' qhx'; (try k_sweep))))
  (k_with "k_handed" => (exact (by assumption : True ∧ handedIn _ = true).2))
  (k_with "eval ListComp" => ((k_here; k_dflt (refine' LC_F ?h194hF ?h194hk1 ?h194hk2 ?h194hk3 ?h194hk4 ?h194hk5 ?h194hk6 ?_; (case h194hF => k_asm); (case h194hk1 => with_unfolding_all rfl); (case h194hk2 => decide); (case h194hk3 => rfl); (case h194hk4 => decide); (case h194hk5 => rfl); (case h194hk6 => decide); k_whole))))
  (k_with "exec Assign cons ListComp" => ((k_here; k_dflt (refine' ALC_F ?h195hF ?h195hk0 ?h195hks ?h195hk1 ?h195hk2 ?h195hk3 ?h195hk4 ?h195hk5 ?h195hk6 ?h195hky ?h195hkp ?_; (case h195hF => k_asm); (case h195hk0 => rfl); (case h195hks => with_unfolding_all rfl); (case h195hk1 => with_unfolding_all rfl); (case h195hk2 => decide); (case h195hk3 => rfl); (case h195hk4 => decide); (case h195hk5 => rfl); (case h195hk6 => decide); (case h195hky => rfl); (case h195hkp => rfl); k_whole))))
  (k_with "eval Name" => ((k_here; k_dflt (refine' nameX_L ?h196hF ?h196hv ?_ ?h196ha ?h196hb; (case h196hF => k_asm); (case h196ha => rfl); (case h196hb => rfl); (case h196hv => assumption); k_whole))))
  (k_with "k_ne" => (first | exact Or.inr (by intro qv9 qe9; cases qe9) | exact Or.inl (show @Ne Nat _ _ by omega)))
  (k_with "k_all" => (first | exact List.forall_mem_nil _ | exact good_noCell (by assumption) | (refine' List.forall_mem_cons.mpr ⟨?h198ha, ?h198hb⟩; (case h198ha => k_ne); (case h198hb => k_all))))
  (k_with "k_updF" => (first | (refine' UpdC.head ?h199ha; (case h199ha => k_all)) | (refine' UpdC.tail ?h199ha ?h199hb; (case h199ha => k_ne); (case h199hb => k_updF))))
  (k_with "storeName" => ((k_here; k_dflt (refine' storeC_W ?h200hF ?h200hN ?h200hc ?h200hU ?h200hd ?_ ?h200ha ?h200hb; (case h200hF => k_asm); (case h200hN => k_asm); (case h200ha => rfl); (case h200hb => rfl); (case h200hc => rfl); (case h200hU => k_updF); (case h200hd => assumption); k_whole); intro qh' qo' qF' qN' qd'; (try dsimp only at qN'); (try k_sweep))))
  conv at hb => rhs; whnf
  conv at hsc => rhs; whnf
  subst hb hsc
  k_steps
  refine ⟨_, _, _, cells7 L o1 o2 o3 o4 o5 o6 o7 [(ln, listOf vs.toArray k)], nw, JM nw ns, SrcOk.list (vs := vs) (k := k), ?_, rfl, ?_, F, N, G, JM.zero nw ns, ?_, ?_, ?_⟩
  · intro p hp
    rw [List.mem_singleton.mp hp]
    k_mem
  · exact Nat.le_trans hlen (by rw [sizeLine_eq]; decide)
  · rintro i ys nw' ⟨_, xs, rfl, _⟩
    exact noTxt_refs xs
  · rintro i v ys nw₁ I oI C oC m₂ D h tk E' hi hP ⟨hsub, xs, rfl, hR, hnd⟩ G' nC hx F' N'
    obtain ⟨n, t, rfl, hn⟩ := hI.at i v hP
    refine wpAny_tests_nil ?_
    rw [if_pos rfl]
    clear F N
    k_steps
    (with_reducible rename KtsTurn _ _ _ => T9)
    (with_reducible rename Fr _ _ _ _ => F9); (with_reducible rename News _ _ _ _ => N9)
    (with_reducible rename RefN _ _ _ => R9)
    have x9 := (by assumption : ∀ p ∈ (_ ++ (I, oI) :: _ : List (Addr × Obj)), p.1 ≠ _)
    have s9 := (by assumption : ∀ p ∈ (_ ++ (I, oI) :: _ : List (Addr × Obj)), p ∈ _)
    obtain ⟨F1, N1⟩ := turn0 T9 F9 N9
    exact ⟨_, _, good _, rfl, F1, news_re (a := (I, oI) :: (C, oC) :: (D, lst _) :: cells7 L o1 o2 o3 o4 o5 o6 o7 [(ln, listOf vs.toArray k)]) N1 s9, good_all _, JM.next (a := (I, oI) :: (C, oC) :: (D, lst _) :: cells7 L o1 o2 o3 o4 o5 o6 o7 [(ln, listOf vs.toArray k)]) hsub hR hnd G' hn s9 R9 x9⟩
  · rintro D h tk ys nw' F' N' G' hD ⟨hsub, xs, rfl, hR, hnd⟩
    clear F N
    simp only [List.cons_append, List.nil_append] at N'
    k_steps
    (with_reducible rename Fr _ _ _ _ => F9); (with_reducible rename News _ _ _ _ => N9)
    have d9 := (by assumption : _ = Data.cell (some (Value.ref D)))
    refine hQ _ D xs (xs.map Value.ref).length _ _ nw' F9 (fun p hp => N9 p ?_) G' d9 (by rwa [hI.length, List.take_length] at hR) hnd
    simp only [List.mem_cons, List.cons_append, List.nil_append] at hp ⊢
    rcases hp with hp | hp | hp | hp | hp | hp | hp | hp | hp | hp <;> simp only [hp, true_or, or_true]
/-- the facts on the list of dues, turn by turn -/
def Dues (nw : List (Addr × Obj)) (ns : List Int) (ds : List Addr) : Prop := ds.length = ns.length ∧ ∀ (j : Nat) (n : Int) (d : Addr), ns[j]? = some n → ds[j]? = some d → DueN nw n d
theorem Dues.mono {nw nw' : List (Addr × Obj)} {ns : List Int} {ds : List Addr} (h : Dues nw ns ds) (hs : ∀ p ∈ nw, p ∈ nw') : Dues nw' ns ds := ⟨h.1, fun j n x a b => (h.2 j n x a b).mono hs⟩
theorem Dues.snoc {nw : List (Addr × Obj)} {ns : List Int} {xs : List Addr} {n : Int} {x : Addr} (h : Dues nw ns xs) (r : DueN nw n x) : Dues nw (ns ++ [n]) (xs ++ [x]) := by
  refine ⟨by simp [h.1], fun j k y a b => ?_⟩
  by_cases hj : j < ns.length
  · rw [List.getElem?_append_left hj] at a
    rw [List.getElem?_append_left (by rw [h.1]; exact hj)] at b
    exact h.2 j k y a b
  · have hj2 : j < (ns ++ [n]).length := (List.getElem?_eq_some_iff.mp a).1
    rw [List.length_append, List.length_singleton] at hj2
    have e : j = ns.length := by omega
    subst e
    rw [List.getElem?_append_right (Nat.le_refl _), Nat.sub_self] at a
    rw [List.getElem?_append_right (Nat.le_of_eq h.1), h.1, Nat.sub_self] at b
    cases a; cases b; exact r
def JD (nw : List (Addr × Obj)) (ns : List Int) (i : Nat) (ys : List Value) (nw' : List (Addr × Obj)) : Prop := (∀ p ∈ nw, p ∈ nw') ∧ ∃ xs : List Addr, ys = xs.map .ref ∧ Dues nw' (ns.take i) xs
theorem JD.zero (nw : List (Addr × Obj)) (ns : List Int) : JD nw ns 0 [] nw := ⟨fun _ hp => hp, [], rfl, ⟨rfl, fun j n x a => by simp at a⟩⟩
theorem JD.next {nw nw₁ nw' a : List (Addr × Obj)} {ns : List Int} {i : Nat} {xs : List Addr} {n : Int} {x : Addr} (hsub : ∀ p ∈ nw, p ∈ nw₁) (hR : Dues nw₁ (ns.take i) xs) (G : AllGood nw₁) (hn : ns[i]? = some n) (hs : ∀ p ∈ a ++ nw₁, p ∈ nw') (R : DueN nw' n x) :
    JD nw ns (i + 1) (xs.map .ref ++ [.ref x]) (good nw') := by
  have up : ∀ p ∈ nw₁, p ∈ good nw' := good_sub (fun p hp => hs p (List.mem_append_right _ hp)) G
  refine ⟨fun p hp => up p (hsub p hp), xs ++ [x], by simp, ?_⟩
  rw [take_snoc hn]
  exact (hR.mono up).snoc R.good
theorem s_due {b : List Stmt} {Q : Flow → Shared → Prop} {E : Value → Shared → Prop} {ns : List Int} {vs : List Value} {ln : Addr} {k : Nat} {nw r : List (Addr × Obj)} {o1 o2 o3 o4 o5 o6 o7 : Obj} (hb : b = st2) (hsc : sc = lawSc)
    (X : (hd.heap_1 w.params).In h₀) (T : Top p loose mean mg mb h₀) (hdp : dp < 600) (hun : un < 100)
    (hI : IntsAre vs ns) (hlen : vs.length ≤ 5) (F : Fr h₀ L s.heap m) (N : News h₀ L s.heap (cells7 L o1 o2 o3 o4 o5 o6 o7 ((ln, listOf vs.toArray k) :: r) ++ nw)) (G : AllGood nw) (hm : m "numbers" = some (.ref ln))
    (hQ : ∀ ld ds k' h' tk' nw', Fr h₀ L h' (fun z => if z = "dues" then some (.ref ld) else m z) → News h₀ L h' ((ld, listOf (ds.map Value.ref).toArray k') :: cells7 L o1 o2 o3 o4 o5 o6 o7 ((ln, listOf vs.toArray k) :: r) ++ nw') → AllGood nw' → (∀ p ∈ nw, p ∈ nw') → Dues nw' ns ds → Q .next { s with heap := h', toks := tk' }) :
    wpAny (model PR w) (tA dp un gd (some [envOfC nm sc L fa cd])) (execs b (envOfC nm sc L fa cd)) Q E s := by
  k_with_none
  (k_with "ktr_room" => ((first | k_dflt (exact lt_0 (by assumption) rfl) | k_dflt (exact lt_1 (by assumption) rfl) | ((simp only [depth_under_make, depth_under_kw, depth_in1, depth_deeper, depth_caller, recursionLimit] at *); omega))))
  (k_with "k_room" => ((first | k_dflt (exact lt_0 (by assumption) rfl) | k_dflt (exact lt_1 (by assumption) rfl) | ((simp only [depth_under_make, depth_under_kw, depth_in1, depth_deeper, depth_caller, recursionLimit] at *); omega))))
  (k_with "k_units" => ((first | k_dflt (exact lt_0 (by assumption) rfl) | k_dflt (exact lt_1 (by assumption) rfl) | k_dflt (exact lt_2 (by assumption) rfl) | k_dflt (exact lt_3 (by assumption) rfl) | ((have qhcL9 := cLine_is); (simp only [units_in1, units_deeper, Around.mark_units, units_caller, cLine] at *); omega))))
  (k_with "execs cons" => (((first | (with_reducible show wpAny _ _ _ _ _ (Shared.mk _ _ _ (_ + 1) _)) | (with_reducible show wpAny _ _ _ _ _ (Shared.mk _ _ _ (Shared.toks (Shared.mk _ _ _ _ _)) _))); refine tok_gen (fun tk => ?_))))
  (k_with "k_enter" => ((refine' code_defN ?h190hk2 ?h190hk3 ?h190hk4 ?h190hk5 ?h190hk6 ?h190hk7 ?h190hk8 ?h190hk9 ?h190hkB ?_ ?h190hc2 ?h190hc3 ?h190hc4 ?h190hc5; (case h190hk2 => k_asm); (case h190hk3 => k_asm); (case h190hk4 => k_asm); (case h190hk5 => k_asm); (case h190hk6 => k_is); (case h190hk7 => k_is); (case h190hk8 => k_room); (case h190hk9 => first | exact BindsTo.of_eq rfl | exact binds_K (by k_in) rfl (by k_is) rfl rfl rfl | fail "k_enter: no rule for these arguments"); (case h190hc5 => decide); (case h190hkB => exact locs rfl); (case h190hc2 => exact rfl); (case h190hc3 => exact rfl); (case h190hc4 => exact rfl); k_whole; intro qg' qL' qh' qFG' qF' qN' qX' qT'; (try dsimp only); (try k_fold))))
  (k_with "call ref" => ((k_here; (with_reducible show wpAny _ _ (call (Value.ref 148) [Value.int _ _, Value.bool true]) _ _ _); k_dflt (refine' value_K ?h191hF ?h191hN ?h191hX ?h191hT ?h191hd ?h191hu ?_; (case h191hF => k_asm); (case h191hN => k_asm); (case h191hX => k_asm); (case h191hT => k_asm); (case h191hd => (first | exact lt_0 (by assumption) rfl | exact lt_1 (by assumption) rfl | exact lt_2 (by assumption) rfl | exact lt_3 (by assumption) rfl | ((try dsimp only); omega))); (case h191hu => (first | exact lt_0 (by assumption) rfl | exact lt_1 (by assumption) rfl | exact lt_2 (by assumption) rfl | exact lt_3 (by assumption) rfl | ((try dsimp only); omega))); k_whole); intro qr' qmu' qnv' qh' qtk' qF' qN' qv'; (try k_sweep))))
  (k_with "call ref" => ((k_here; (with_reducible show wpAny _ _ (call (Value.ref 109) [_]) _ _ _); k_dflt (refine' pr_any ?h192hB ?h192hF ?h192hN ?h192hX ?h192hT ?h192hXB ?h192hTB ?h192hD ?h192hhfr ?h192hhef ?h192hhck ?h192hhdp ?h192hhun ?h192hv ?_; (case h192hB => assumption); (case h192hv => assumption); (case h192hF => k_asm); (case h192hN => k_asm); (case h192hX => k_asm); (case h192hT => k_asm); (case h192hXB => assumption); (case h192hTB => assumption); (case h192hD => exact ktsDicts_nil); (case h192hhfr => exact rfl); (case h192hhef => exact rfl); (case h192hhck => exact rfl); (case h192hhdp => (first | exact lt_0 (by assumption) rfl | exact lt_1 (by assumption) rfl | exact lt_2 (by assumption) rfl | exact lt_3 (by assumption) rfl | ((try dsimp only); omega))); (case h192hhun => (first | exact lt_0 (by assumption) rfl | exact lt_1 (by assumption) rfl | exact lt_2 (by assumption) rfl | exact lt_3 (by assumption) rfl | ((try dsimp only); omega))); k_whole); intro qg' qx' qnw' qh' qtk' qT' qF' qN' qhs' qB' qX' qP' qD' qR' qhx'; (try k_sweep))))
  (k_with "k_handed" => (exact (by assumption : True ∧ handedIn _ = true).2))
  (k_with "eval ListComp" => ((k_here; k_dflt (refine' LC_F ?h194hF ?h194hk1 ?h194hk2 ?h194hk3 ?h194hk4 ?h194hk5 ?h194hk6 ?_; (case h194hF => k_asm); (case h194hk1 => with_unfolding_all rfl); (case h194hk2 => decide); (case h194hk3 => rfl); (case h194hk4 => decide); (case h194hk5 => rfl); (case h194hk6 => decide); k_whole))))
  (k_with "exec Assign cons ListComp" => ((k_here; k_dflt (refine' ALC_F ?h195hF ?h195hk0 ?h195hks ?h195hk1 ?h195hk2 ?h195hk3 ?h195hk4 ?h195hk5 ?h195hk6 ?h195hky ?h195hkp ?_; (case h195hF => k_asm); (case h195hk0 => rfl); (case h195hks => with_unfolding_all rfl); (case h195hk1 => with_unfolding_all rfl); (case h195hk2 => decide); (case h195hk3 => rfl); (case h195hk4 => decide); (case h195hk5 => rfl); (case h195hk6 => decide); (case h195hky => rfl); (case h195hkp => rfl); k_whole))))
  (k_with "eval Name" => ((k_here; k_dflt (refine' nameX_L ?h196hF ?h196hv ?_ ?h196ha ?h196hb; (case h196hF => k_asm); (case h196ha => rfl); (case h196hb => rfl); (case h196hv => assumption); k_whole))))
  (k_with "k_ne" => (first | exact Or.inr (by intro qv9 qe9; cases qe9) | exact Or.inl (show @Ne Nat _ _ by omega)))
  (k_with "k_all" => (first | exact List.forall_mem_nil _ | exact good_noCell (by assumption) | (refine' List.forall_mem_cons.mpr ⟨?h198ha, ?h198hb⟩; (case h198ha => k_ne); (case h198hb => k_all))))
  (k_with "k_updF" => (first | (refine' UpdC.head ?h199ha; (case h199ha => k_all)) | (refine' UpdC.tail ?h199ha ?h199hb; (case h199ha => k_ne); (case h199hb => k_updF))))
  (k_with "storeName" => ((k_here; k_dflt (refine' storeC_W ?h200hF ?h200hN ?h200hc ?h200hU ?h200hd ?_ ?h200ha ?h200hb; (case h200hF => k_asm); (case h200hN => k_asm); (case h200ha => rfl); (case h200hb => rfl); (case h200hc => rfl); (case h200hU => k_updF); (case h200hd => assumption); k_whole); intro qh' qo' qF' qN' qd'; (try dsimp only at qN'); (try k_sweep))))
  (k_with "call ref" => ((k_here; (with_reducible show wpAny _ _ (call (Value.ref 162) [Value.int _ _]) _ _ _); k_dflt (refine' due_K ?h201hF ?h201hN ?h201hX ?h201hT ?h201hd ?h201hu ?_; (case h201hF => k_asm); (case h201hN => k_asm); (case h201hX => k_asm); (case h201hT => k_asm); (case h201hd => (first | exact lt_0 (by assumption) rfl | exact lt_1 (by assumption) rfl | exact lt_2 (by assumption) rfl | exact lt_3 (by assumption) rfl | ((try dsimp only); omega))); (case h201hu => (first | exact lt_0 (by assumption) rfl | exact lt_1 (by assumption) rfl | exact lt_2 (by assumption) rfl | exact lt_3 (by assumption) rfl | ((try dsimp only); omega))); k_whole); intro qa' qnw' qh' qtk' qhs' qF' qN' qhd'; (try k_sweep))))
  conv at hb => rhs; whnf
  conv at hsc => rhs; whnf
  subst hb hsc
  k_steps
  refine ⟨_, _, _, cells7 L o1 o2 o3 o4 o5 o6 o7 ((ln, listOf vs.toArray k) :: r), nw, JD nw ns, SrcOk.list (vs := vs) (k := k), ?_, rfl, ?_, F, N, G, JD.zero nw ns, ?_, ?_, ?_⟩
  · intro p hp
    rw [List.mem_singleton.mp hp]
    k_mem
  · exact Nat.le_trans hlen (by rw [sizeLine_eq]; decide)
  · rintro i ys nw' ⟨_, xs, rfl, _⟩
    exact noTxt_refs xs
  · rintro i v ys nw₁ I oI C oC m₂ D h tk E' hi hP ⟨hsub, xs, rfl, hR⟩ G' nC hx F' N'
    obtain ⟨n, t, rfl, hn⟩ := hI.at i v hP
    refine wpAny_tests_nil ?_
    rw [if_pos rfl]
    clear F N
    k_steps
    (with_reducible rename Fr _ _ _ _ => F9); (with_reducible rename News _ _ _ _ => N9)
    (with_reducible rename DueN _ _ _ => R9)
    have s9 := (by assumption : ∀ p ∈ ((I, oI) :: _ : List (Addr × Obj)), p ∈ _)
    exact ⟨_, _, good _, rfl, F9, news_re (v := []) (a := (I, oI) :: (C, oC) :: (D, lst _) :: cells7 L o1 o2 o3 o4 o5 o6 o7 ((ln, listOf vs.toArray k) :: r)) N9 s9, good_all _, JD.next (a := (I, oI) :: (C, oC) :: (D, lst _) :: cells7 L o1 o2 o3 o4 o5 o6 o7 ((ln, listOf vs.toArray k) :: r)) hsub hR G' hn s9 R9⟩
  · rintro D h tk ys nw' F' N' G' hD ⟨hsub, xs, rfl, hR⟩
    clear F N
    k_steps
    exact hQ D xs (xs.map Value.ref).length _ _ nw' F' N' G' hsub (by rwa [hI.length, List.take_length] at hR)
end
end Mine
namespace Mine
open Classical
section
variable {prog : Program} {w : World} {A : Around} {E : Value → Shared → Prop} {s : Shared} {h₀ : Heap} {L : Addr} {m : Str → Option Value} {news : List (Addr × Obj)}
theorem sliceApplied_two {sl : Addr} {u : Tok} {Q : Int × Int × Nat → Shared → Prop} (hs : s.heap.IsSliceOf sl .none (.int 2 u) .none) (h : Q ((0 : Int), 1, 2) s) :
    wpAny (model prog w) A (Builtin.Slice.sliceApplied (.ref sl) (pure (4 : Int))) Q E s := by
  obtain ⟨os, hos, hcs, hds⟩ := id hs
  unfold Builtin.Slice.sliceApplied Builtin.Slice.sliceFields
  refine wpAny_bind (wpAny_bind (wpAny_field hos hds (x := .none) rfl (wpAny_bind (wpAny_field hos hds (x := .int 2 u) rfl (wpAny_bind (wpAny_field hos hds (x := .none) rfl (wpAny_pure ?_)))))))
  refine wpAny_bind (slicePart_none ?_)
  show wpAny _ _ (if ((1 : Int) == 0) = true then _ else _) _ _ s
  rw [if_neg (by decide)]
  refine wpAny_bind (slicePart_none (wpAny_bind (slicePart_int (wpAny_bind (wpAny_pure ?_)))))
  exact wpAny_pure h
theorem getItem_two {t sl : Addr} {a b c d : Value} {u : Tok} {Q : Value → Shared → Prop} (ht : IsTup s.heap t #[a, b, c, d]) (hs : s.heap.IsSliceOf sl .none (.int 2 u) .none)
    (h : Q (.ref s.heap.objs.size) { s with heap := s.heap.push (tupO [a, b]) }) : wpAny (model prog w) A (getItem (.ref t) (.ref sl)) Q E s := by
  obtain ⟨os, hos, hcs, hds⟩ := id hs
  have hTs : s.TypeIs (.ref sl) "slice" := ⟨os, hos, hcs⟩
  have hsz : sizeOk (.seq ([a, b] : List Value).toArray) := by
    show ([a, b] : List Value).toArray.size ≤ sizeLine
    rw [sizeLine_eq, List.size_toArray, List.length_cons, List.length_cons, List.length_nil]; decide
  unfold getItem
  try with_reducible refine wpAny_holding ?_
  first | refine wpAny_bind (wpAny_pure ?_) | skip
  refine wpAny_bind (wpAny_sequenceKey ht.typeIs (by decide) ?_)
  refine wpAny_bind (wpAny_callSpecial?_slot (name := Str.ofString "__getitem__") ht.typeIs slot_tuple_getitem
    (wpAny_call_entry slot_tuple_getitem ht.typeIs entry_tuple_getitem ?_ (args_tuple_getitem _ _)))
  show wpAny _ _ (Builtin.Tuple.tupleItemsOf (.ref t) >>= _) _ _ s
  refine wpAny_bind (tupleItemsOf_ ht ?_)
  refine wpAny_bind (wpAny_typeOf hTs ?_)
  rw [if_pos (by decide)]
  refine wpAny_bind (sliceApplied_two hs ?_)
  show wpAny _ _ (if ((0 : Int) == 0 && (1 : Int) == 1 && (2 == 4)) = true then _ else _) _ _ s
  rw [if_neg (by decide)]
  show wpAny _ _ (Builtin.Tuple.tupleExact ([a, b] : List Value).toArray >>= _) _ _ s
  first
    | exact wpAny_bind (m := Builtin.Tuple.tupleExact _) (wpAny_newObj_type (wpAny_pure ⟨_, rfl, wpAny_pure h⟩) hsz)
    | exact wpAny_bind (m := Builtin.Tuple.tupleExact _) (wpAny_newObj_type (wpAny_bind (wpAny_pure (wpAny_pure ⟨_, rfl, wpAny_pure h⟩))) hsz)
    | exact wpAny_bind (wpAny_bind (m := Builtin.Tuple.tupleExact _) (wpAny_newObj_type (wpAny_pure (wpAny_pure ⟨_, rfl, wpAny_pure h⟩)) hsz))
    | exact wpAny_bind (wpAny_bind (m := Builtin.Tuple.tupleExact _) (wpAny_newObj_type (wpAny_pure ⟨_, rfl, wpAny_pure h⟩) hsz))
theorem slice_two {value slice : PySem.Expr} {t : Addr} {a b c d : Value} {u : Tok} {Q : Value → Shared → Prop}
    (F : Fr h₀ L s.heap m) (N : News h₀ L s.heap news) (hm : (t, tupO [a, b, c, d]) ∈ news)
    (h : ∀ D h', Fr h₀ L h' m → News h₀ L h' ((D, tupO [a, b]) :: news) → (∀ p ∈ news, p.1 < D) → Q (.ref D) { s with heap := h' })
    (hs : subscripted slice false (.ref t) (.ref s.heap.objs.size) = operate [.ref s.heap.objs.size, .ref t] (getItem (.ref t) (.ref s.heap.objs.size)))
    (hg : ∀ r, letTemporaryGo value (.ref t) r = pure ()) :
    wpAny (model prog w) A (subscriptTail value slice (.ref t) (.ref s.heap.objs.size)) Q E { s with heap := s.heap.push { cls := .type "slice", data := .fields #[.none, .int 2 u, .none] } } := by
  have ht : IsTup s.heap t #[a, b, c, d] := ⟨_, (N _ hm).1, rfl, _, rfl⟩
  have ht' : IsTup (s.heap.push { cls := .type "slice", data := .fields #[.none, .int 2 u, .none] }) t #[a, b, c, d] := ht.keeps fun _ _ e => Heap.get?_push_of_some _ e
  refine subscriptTail_ops (s := { s with heap := s.heap.push { cls := .type "slice", data := .fields #[.none, .int 2 u, .none] } }) ht'.typeIs slot_tuple_getitem.lookup
    (getItem_two ht' (Heap.IsSliceOf.new ..) ?_) hs hg
  have N1 := News.push (F.push { cls := .type "slice", data := .fields #[.none, .int 2 u, .none] }) (N.grown fun _ _ e => Heap.get?_push_of_some _ e) (tupO [a, b])
  rw [Heap.size_push] at N1
  show Q (.ref (s.heap.push _).objs.size) _
  rw [Heap.size_push]
  exact h _ _ ((F.push _).push _) N1 fun p hp => Nat.lt_succ_of_lt (Heap.lt_size (N p hp).1)
open PySem.SeqAt PySem.MeetsSeq
theorem eqAt_dec {A : Around} {s : Shared} {u v : Value} {b : Bool} {p : Prop} {_ : Decidable p} (h : EqAt A s u v b) (i : b = true ↔ p) : EqAt A s u v (decide p) := (Bool.eq_iff_iff.mpr (i.trans decide_eq_true_iff.symm) : b = decide p) ▸ h
theorem dbO_t {n : Int} (e : hasDb n = true) : dbO n = some (baseS n) := if_pos e
theorem dbO_f {n : Int} (e : hasDb n = false) : dbO n = none := if_neg fun h => Bool.noConfusion (e.symm.trans h)
theorem eqAt_db {A : Around} {s : Shared} {n k : Int} {x y : Value} (hx : DbV n x) (hy : DbV k y) : EqAt A s x y (decide (dbO n = dbO k)) := by
  rcases hx with ⟨e, t, rfl⟩ | ⟨e, rfl⟩ <;> rcases hy with ⟨f, u, rfl⟩ | ⟨f, rfl⟩
  · rw [dbO_t e, dbO_t f]; exact eqAt_dec (.str_str _ _ _ _) (beq_iff_eq.trans ⟨congrArg some, Option.some.inj⟩)
  · rw [dbO_t e, dbO_f f]; exact eqAt_dec (.str_none _ _) ⟨fun h => Bool.noConfusion h, fun h => Option.noConfusion rfl (heq_of_eq h)⟩
  · rw [dbO_f e, dbO_t f]; exact eqAt_dec (.none_str _ _) ⟨fun h => Bool.noConfusion h, fun h => Option.noConfusion rfl (heq_of_eq h)⟩
  · rw [dbO_f e, dbO_f f]; exact eqAt_dec (.same _) ⟨fun _ => rfl, fun _ => rfl⟩
theorem two_all : ∀ a b : Bool, ((List.range (min 2 2)).all (fun j => @Nat.rec (fun _ => Bool) a (fun _ _ => b) j) && 2 == 2) = (a && b) := by decide
/-- the heads of two dues -/
theorem eq_heads {n k : Int} {a b : Addr} {x y : Value} {t u : Tok} {Q : Value → Shared → Prop} (N : News h₀ L s.heap news) (ha : (a, tupO [.bytes (oidB n) t, x]) ∈ news) (hb : (b, tupO [.bytes (oidB k) u, y]) ∈ news) (hx : DbV n x) (hy : DbV k y) (hu : A.units + 8 < cLine)
    (h : Q (.bool (decide (oidB n = oidB k) && decide (dbO n = dbO k))) s) : wpAny (model PR w) A (compareOp .Eq (.ref a) (.ref b)) Q E s := by
  have t1 : s.heap.IsTuple a ([.bytes (oidB n) t, x] : List Value).toArray := ⟨_, (N _ ha).1, rfl, _, rfl⟩
  have t2 : s.heap.IsTuple b ([.bytes (oidB k) u, y] : List Value).toArray := ⟨_, (N _ hb).1, rfl, _, rfl⟩
  have key := RcAt.tuples (A := A) (e := fun j => @Nat.rec (fun _ => Bool) (decide (oidB n = oidB k)) (fun _ _ => decide (dbO n = dbO k)) j) t1 t2 (room_here hu) (fun j => by
    match j with
    | 0 => exact fun _ _ => eqAt_dec (eqAt_bytes (oidB n) (oidB k) t u) (beq_iff_eq.trans Array.toList_inj)
    | 1 => exact fun _ _ => eqAt_db hx hy
    | j + 2 => exact fun h1 => absurd h1 (Nat.not_lt.mpr (Nat.le_add_left 2 j)))
  exact key PR w E Q ((two_all _ _).symm ▸ h)
end
end Mine
namespace Mine
open Classical
open PyProof.Rows.LCg
def kBody : List Stmt := match lawB with
  | [_, _, _, .For _ _ b _ _, _, _, _, _] => b
  | _ => []
def jBody : List Stmt := match kBody with
  | [_, .For _ _ b _ _, _, _] => b
  | _ => []
def jB1 : List Stmt := match jBody with
  | a :: b :: _ => [a, b]
  | _ => []
noncomputable def alB (kz jz nk nj : Int) : Bool := decide (kz = jz) || alikeB nk nj
theorem al1 {kz jz nk nj : Int} {o : Obj} (h : kz = jz) (d : o.data = .cell (some (.bool (kz == jz)))) : o.data = .cell (some (.bool (alB kz jz nk nj))) := by
  subst h
  simpa [alB] using d
theorem al2 {kz jz nk nj : Int} {o : Obj} (h : kz ≠ jz) (w : weakB nk = true) (d : o.data = .cell (some (.bool !weakB nk))) : o.data = .cell (some (.bool (alB kz jz nk nj))) := by
  rw [d]; simp [alB, h, alikeB, w]
theorem al3 {kz jz nk nj : Int} {o : Obj} (h : kz ≠ jz) (a : (decide (oidB nk = oidB nj) && decide (dbO nk = dbO nj)) = true) (w : weakB nk = false) (d : o.data = .cell (some (.bool !weakB nj))) : o.data = .cell (some (.bool (alB kz jz nk nj))) := by
  rw [d, alB, alikeB, a, w]; simp [h]
theorem al4 {kz jz nk nj : Int} {o : Obj} (h : kz ≠ jz) (a : (decide (oidB nk = oidB nj) && decide (dbO nk = dbO nj)) = false) (d : o.data = .cell (some (.bool (decide (oidB nk = oidB nj) && decide (dbO nk = dbO nj))))) : o.data = .cell (some (.bool (alB kz jz nk nj))) := by
  rw [d, alB, alikeB, a]; simp [h]
def CellO (o : Obj) : Prop := ∃ v, o.data = .cell v
section
variable {w : World} {p : Program} {loose : List Str} {mean : ExcName → Option Value} {mg mb : Str → Option Value} {dp un : Nat} {gd : Option (List Code)} {s : Shared} {h₀ : Heap} {L fa : Addr} {cd : Value} {nm : Str} {sc : Scope} {A₀ : Around} {m : Str → Option Value}
theorem j_pre {b : List Stmt} {Q : Flow → Shared → Prop} {E : Value → Shared → Prop} {vs : List Value} {xs ds : List Addr} {ln lm ld Ij Ik : Addr} {k k' k'' : Nat} {nw : List (Addr × Obj)} {o1 o2 o3 o4 o5 o6 o7 oj ok : Obj} {v4 v5 : Option Value} {kz jz nk nj : Int} {t2 t3 : Tok} {dk dj : Addr} (hb : b = jB1) (hsc : sc = lawSc)
    (X : (hd.heap_1 w.params).In h₀) (T : Top p loose mean mg mb h₀) (hdp : dp < 600) (hun : un < 100)
    (F : Fr h₀ L s.heap m) (N : News h₀ L s.heap ((Ij, oj) :: (Ik, ok) :: cells7 L o1 o2 o3 o4 o5 o6 o7 [(ln, listOf vs.toArray k), (lm, listOf (xs.map Value.ref).toArray k'), (ld, listOf (ds.map Value.ref).toArray k'')] ++ nw)) (G : AllGood nw)
    (hoj : ∀ v, oj.data ≠ .cell v) (hok : ∀ v, ok.data ≠ .cell v) (d2 : o2.data = .cell (some (.int kz t2))) (d3 : o3.data = .cell (some (.int jz t3))) (d4 : o4.data = .cell v4) (d5 : o5.data = .cell v5)
    (hk0 : 0 ≤ kz) (hk5 : kz < 5) (hj0 : 0 ≤ jz) (hj5 : jz < 5) (hdk : (ds.map Value.ref)[kz.toNat]? = some (.ref dk)) (hdj : (ds.map Value.ref)[jz.toNat]? = some (.ref dj)) (Dk : DueN nw nk dk) (Dj : DueN nw nj dj) (hm : m "dues" = some (.ref ld))
    (hQ : ∀ o4' o5' m' h' tk', CellO o4' → o5'.data = .cell (some (.bool (alB kz jz nk nj))) → Fr h₀ L h' m' → (∀ z : Str, z ≠ "other" → m' z = m z) → News h₀ L h' ((Ij, oj) :: (Ik, ok) :: cells7 L o1 o2 o3 o4' o5' o6 o7 [(ln, listOf vs.toArray k), (lm, listOf (xs.map Value.ref).toArray k'), (ld, listOf (ds.map Value.ref).toArray k'')] ++ nw) → Q .next { s with heap := h', toks := tk' }) :
    wpAny (model PR w) (tA dp un gd (some [envOfC nm sc L fa cd])) (execs b (envOfC nm sc L fa cd)) Q E s := by
  k_with_none
  (k_with "ktr_room" => ((first | k_dflt (exact lt_0 (by assumption) rfl) | k_dflt (exact lt_1 (by assumption) rfl) | ((simp only [depth_under_make, depth_under_kw, depth_in1, depth_deeper, depth_caller, recursionLimit] at *); omega))))
  (k_with "k_room" => ((first | k_dflt (exact lt_0 (by assumption) rfl) | k_dflt (exact lt_1 (by assumption) rfl) | ((simp only [depth_under_make, depth_under_kw, depth_in1, depth_deeper, depth_caller, recursionLimit] at *); omega))))
  (k_with "k_units" => ((first | k_dflt (exact lt_0 (by assumption) rfl) | k_dflt (exact lt_1 (by assumption) rfl) | k_dflt (exact lt_2 (by assumption) rfl) | k_dflt (exact lt_3 (by assumption) rfl) | ((have qhcL9 := cLine_is); (simp only [units_in1, units_deeper, Around.mark_units, units_caller, cLine] at *); omega))))
  (k_with "execs cons" => (((first | (with_reducible show wpAny _ _ _ _ _ (Shared.mk _ _ _ (_ + 1) _)) | (with_reducible show wpAny _ _ _ _ _ (Shared.mk _ _ _ (Shared.toks (Shared.mk _ _ _ _ _)) _))); refine tok_gen (fun tk => ?_))))
  (k_with "k_enter" => ((refine' code_defN ?h206hk2 ?h206hk3 ?h206hk4 ?h206hk5 ?h206hk6 ?h206hk7 ?h206hk8 ?h206hk9 ?h206hkB ?_ ?h206hc2 ?h206hc3 ?h206hc4 ?h206hc5; (case h206hk2 => k_asm); (case h206hk3 => k_asm); (case h206hk4 => k_asm); (case h206hk5 => k_asm); (case h206hk6 => k_is); (case h206hk7 => k_is); (case h206hk8 => k_room); (case h206hk9 => first | exact BindsTo.of_eq rfl | exact binds_K (by k_in) rfl (by k_is) rfl rfl rfl | fail "k_enter: no rule for these arguments"); (case h206hc5 => decide); (case h206hkB => exact locs rfl); (case h206hc2 => exact rfl); (case h206hc3 => exact rfl); (case h206hc4 => exact rfl); k_whole; intro qg' qL' qh' qFG' qF' qN' qX' qT'; (try dsimp only); (try k_fold))))
  (k_with "k_ne" => (first | exact Or.inr (by intro qv9 qe9; cases qe9) | exact Or.inl (show @Ne Nat _ _ by omega) | exact Or.inr (by assumption)))
  (k_with "k_all" => (first | exact List.forall_mem_nil _ | exact good_noCell (by assumption) | (refine' List.forall_mem_cons.mpr ⟨?h208ha, ?h208hb⟩; (case h208ha => k_ne); (case h208hb => k_all))))
  (k_with "k_updF" => (first | (refine' UpdC.head ?h209ha; (case h209ha => k_all)) | (refine' UpdC.tail ?h209ha ?h209hb; (case h209ha => k_ne); (case h209hb => k_updF))))
  (k_with "storeName" => ((k_here; k_dflt (refine' storeC_W ?h210hF ?h210hN ?h210hc ?h210hU ?h210hd ?_ ?h210ha ?h210hb; (case h210hF => k_asm); (case h210hN => k_asm); (case h210ha => rfl); (case h210hb => rfl); (case h210hc => rfl); (case h210hU => k_updF); (case h210hd => assumption); k_whole); intro qh' qo' qF' qN' qd'; (try dsimp only at qN'); (try k_sweep))))
  (k_with "eval Name" => ((k_here; k_dflt (refine' nameX_L ?h211hF ?h211hv ?_ ?h211ha ?h211hb; (case h211hF => k_asm); (case h211ha => rfl); (case h211hb => rfl); (case h211hv => assumption); k_whole))))
  (k_with "subscriptTail" => ((k_here; (with_reducible show wpAny _ _ (subscriptTail _ _ (Value.ref _) (Value.int _ _)) _ _ _); k_dflt (refine' itemL ?h212hk1 ?h212hk2 ?h212hk3 ?h212hk4 ?h212hk5 ?_ ?h212hk6; (case h212hk1 => k_asm); (case h212hk2 => k_mem); (case h212hk5 => assumption); (case h212hk3 => assumption); (case h212hk4 => omega); (case h212hk6 => with_unfolding_all rfl); k_whole))))
  (k_with "k_mem" => (assumption))
  (k_with "subscriptTail Name Slice ref ref" => ((k_here; (with_reducible show wpAny _ _ (subscriptTail _ (PySem.Expr.Slice none (some _) none _) (Value.ref _) (Value.ref _)) _ _ _); k_dflt (refine' slice_two ?h214hF ?h214hN ?h214hm ?_ ?h214hs ?h214ht; (case h214hF => k_asm); (case h214hN => k_asm); (case h214hm => k_mem); (case h214hs => with_unfolding_all rfl); (case h214ht => (intro _; with_unfolding_all rfl)); k_whole); intro qD' qh' qF' qN' ql1; (try k_lt ql1); (try k_sweep))))
  (k_with "compareOp Eq ref ref" => ((k_here; k_dflt (refine' eq_heads ?h215hN ?h215ha ?h215hb ?h215hx ?h215hy ?h215hu ?_; (case h215hN => k_asm); (case h215ha => k_mem); (case h215hb => k_mem); (case h215hx => assumption); (case h215hy => assumption); (case h215hu => k_units); k_whole))))
  conv at hb => rhs; whnf
  conv at hsc => rhs; whnf
  subst hb hsc
  obtain ⟨bk, nk', tk1, hk1, hk2, _⟩ := id Dk
  obtain ⟨bj, nj', tj1, hj1, hj2, _⟩ := id Dj
  simp only [List.cons_append, List.nil_append] at N
  k_steps
  all_goals
    (with_reducible rename Fr _ _ _ _ => F9); (with_reducible rename News _ _ _ _ => N9)
    have d8 := (by assumption : _ = Data.cell (some (Value.ref dk)))
    have d9 := (by first | exact al1 (by assumption) (by assumption) | exact al2 (by assumption) (by assumption) (by assumption) | exact al3 (by assumption) (by assumption) (by assumption) (by assumption) | exact al4 (by assumption) (by assumption) (by assumption) : _ = Data.cell (some (Value.bool (alB kz jz nk nj))))
    refine hQ _ _ _ _ _ ⟨_, d8⟩ d9 F9 (fun z hz => if_neg hz) (fun p hp => N9 p ?_)
    simp only [List.mem_cons, List.cons_append, List.nil_append] at hp ⊢
    rcases hp with hp | hp | hp | hp | hp | hp | hp | hp | hp | hp | hp | hp | hp <;> simp only [hp, true_or, or_true]
end
end Mine
namespace Mine
open Classical
open PyProof.Rows.LCg
theorem Oth.mono {nw nw' : List (Addr × Obj)} {x : Addr} {n : Int} {al : Bool} {o : Value} (h : Oth nw x n al o) (hs : ∀ p ∈ nw, p ∈ nw') : Oth nw' x n al o := by
  cases h with
  | same => exact .same
  | ref a b => exact .ref a (b.mono hs)
  | int i t => exact .int i t
  | none => exact .none
  | str a t => exact .str a t
  | bytes a t => exact .bytes a t
/-- what comparing gives -/
def CmpV (al : Bool) (way : Int) (v : Value) : Prop := (al = true ∧ v = .bool (wayB way)) ∨ (al = false ∧ ∃ t, v = .str "refused" t)
def Told (al : Bool) (ys : List Value) : Prop := ∀ (j : Nat) (v : Value), ys[j]? = some v → CmpV al j v
theorem Told.noTxt {al : Bool} {ys : List Value} (h : Told al ys) : NoTxt ys := noTxt_all fun v hv => by
  obtain ⟨j, hj⟩ := List.getElem?_of_mem hv
  rcases h j v hj with ⟨_, rfl⟩ | ⟨_, t, rfl⟩
  · exact ⟨fun _ _ e => (by cases e), fun _ _ e => (by cases e)⟩
  · exact ⟨fun _ _ e => (by cases e; rfl), fun _ _ e => (by cases e)⟩
theorem Told.snoc {al : Bool} {ys : List Value} {v : Value} (h : Told al ys) (hv : CmpV al ys.length v) : Told al (ys ++ [v]) := fun j u hj => by
  by_cases hl : j < ys.length
  · rw [List.getElem?_append_left hl] at hj; exact h j u hj
  · have h2 : j < (ys ++ [v]).length := (List.getElem?_eq_some_iff.mp hj).1
    rw [List.length_append, List.length_singleton] at h2
    have e : j = ys.length := by omega
    subst e
    rw [List.getElem?_append_right (Nat.le_refl _), Nat.sub_self] at hj
    cases hj; exact hv
def JT (al : Bool) (nw : List (Addr × Obj)) (i : Nat) (ys : List Value) (nw' : List (Addr × Obj)) : Prop := nw' = nw ∧ ys.length = i ∧ Told al ys
theorem JT.zero (al : Bool) (nw : List (Addr × Obj)) : JT al nw 0 [] nw := ⟨rfl, rfl, fun j v h => by simp at h⟩
def jB2 : List Stmt := match jBody with
  | _ :: _ :: a :: _ => [a]
  | _ => []
section
variable {w : World} {p : Program} {loose : List Str} {mean : ExcName → Option Value} {mg mb : Str → Option Value} {dp un : Nat} {gd : Option (List Code)} {s : Shared} {h₀ : Heap} {L fa : Addr} {cd : Value} {nm : Str} {sc : Scope} {A₀ : Around} {m : Str → Option Value}
theorem cmp_W {Q E : Value → Shared → Prop} {nw all : List (Addr × Obj)} {env : Env} {al : Bool} {o : Value} {way n : Int} {u : Tok} {x : Addr}
    (B : Below A₀ h₀ [] h₀) (F : Fr h₀ L s.heap m) (N : News h₀ L s.heap all) (X : (hd.heap_1 w.params).In h₀) (T : Top p loose mean mg mb h₀)
    (hef : env.frame = some L) (hck : env.scope.kind = .function) (hdp : dp < 670) (hun : un < 170) (R : RefN nw n x) (hoth : Oth nw x n al o) (hs : ∀ p ∈ nw, p ∈ all)
    (hret : ∀ v h' tk, CmpV al way v → Fr h₀ L h' m → News h₀ L h' all → Q v { s with heap := h', toks := tk }) :
    wpAny (model PR w) (tA dp un gd (some [env])) (call (.ref 183) [.int way u, .ref x, o]) Q E s := by
  refine compared_K B F N X T X T ktsDicts_nil rfl hef hck hdp hun (R.mono hs) (hoth.mono hs) (fun e r g' h' tk hr T' F' N' => ?_) fun e g' h' tk t T' F' N' => ?_
  · obtain ⟨F1, N1⟩ := turn0 T' F' N'
    exact hret _ _ _ (.inl ⟨e, by rw [hr]⟩) F1 N1
  · obtain ⟨F1, N1⟩ := turn0 T' F' N'
    exact hret _ _ _ (.inr ⟨e, t, rfl⟩) F1 N1
theorem j_told {b : List Stmt} {Q : Flow → Shared → Prop} {E : Value → Shared → Prop} {vs : List Value} {xs ds : List Addr} {ln lm ld Ij Ik : Addr} {k k' k'' : Nat} {nw : List (Addr × Obj)} {o1 o2 o3 o4 o5 o6 o7 oj ok : Obj} {kz jz nk : Int} {t2 t3 : Tok} {xk xj : Addr} {al : Bool} (hb : b = jB2) (hsc : sc = lawSc)
    (B : Below A₀ h₀ [] h₀) (X : (hd.heap_1 w.params).In h₀) (T : Top p loose mean mg mb h₀) (hdp : dp < 600) (hun : un < 100)
    (F : Fr h₀ L s.heap m) (N : News h₀ L s.heap ((Ij, oj) :: (Ik, ok) :: cells7 L o1 o2 o3 o4 o5 o6 o7 [(ln, listOf vs.toArray k), (lm, listOf (xs.map Value.ref).toArray k'), (ld, listOf (ds.map Value.ref).toArray k'')] ++ nw)) (G : AllGood nw)
    (d1 : o1.data = .cell (some (.ref lm))) (d2 : o2.data = .cell (some (.int kz t2))) (d3 : o3.data = .cell (some (.int jz t3)))
    (hk0 : 0 ≤ kz) (hk5 : kz < 5) (hj0 : 0 ≤ jz) (hj5 : jz < 5) (hxk : (xs.map Value.ref)[kz.toNat]? = some (.ref xk)) (hxj : (xs.map Value.ref)[jz.toNat]? = some (.ref xj)) (R : RefN nw nk xk) (O : Oth nw xk nk al (.ref xj))
    (hQ : ∀ D ys h' tk', Fr h₀ L h' (fun z => if z = "told" then some (.ref D) else m z) → News h₀ L h' ((D, lst ys) :: (Ij, oj) :: (Ik, ok) :: cells7 L o1 o2 o3 o4 o5 o6 o7 [(ln, listOf vs.toArray k), (lm, listOf (xs.map Value.ref).toArray k'), (ld, listOf (ds.map Value.ref).toArray k'')] ++ nw) → ys.length = 6 → Told al ys → Q .next { s with heap := h', toks := tk' }) :
    wpAny (model PR w) (tA dp un gd (some [envOfC nm sc L fa cd])) (execs b (envOfC nm sc L fa cd)) Q E s := by
  k_with_none
  (k_with "ktr_room" => ((first | k_dflt (exact lt_0 (by assumption) rfl) | k_dflt (exact lt_1 (by assumption) rfl) | ((simp only [depth_under_make, depth_under_kw, depth_in1, depth_deeper, depth_caller, recursionLimit] at *); omega))))
  (k_with "k_room" => ((first | k_dflt (exact lt_0 (by assumption) rfl) | k_dflt (exact lt_1 (by assumption) rfl) | ((simp only [depth_under_make, depth_under_kw, depth_in1, depth_deeper, depth_caller, recursionLimit] at *); omega))))
  (k_with "k_units" => ((first | k_dflt (exact lt_0 (by assumption) rfl) | k_dflt (exact lt_1 (by assumption) rfl) | k_dflt (exact lt_2 (by assumption) rfl) | k_dflt (exact lt_3 (by assumption) rfl) | ((have qhcL9 := cLine_is); (simp only [units_in1, units_deeper, Around.mark_units, units_caller, cLine] at *); omega))))
  (k_with "execs cons" => (((first | (with_reducible show wpAny _ _ _ _ _ (Shared.mk _ _ _ (_ + 1) _)) | (with_reducible show wpAny _ _ _ _ _ (Shared.mk _ _ _ (Shared.toks (Shared.mk _ _ _ _ _)) _))); refine tok_gen (fun tk => ?_))))
  (k_with "k_enter" => ((refine' code_defN ?h220hk2 ?h220hk3 ?h220hk4 ?h220hk5 ?h220hk6 ?h220hk7 ?h220hk8 ?h220hk9 ?h220hkB ?_ ?h220hc2 ?h220hc3 ?h220hc4 ?h220hc5; (case h220hk2 => k_asm); (case h220hk3 => k_asm); (case h220hk4 => k_asm); (case h220hk5 => k_asm); (case h220hk6 => k_is); (case h220hk7 => k_is); (case h220hk8 => k_room); (case h220hk9 => first | exact BindsTo.of_eq rfl | exact binds_K (by k_in) rfl (by k_is) rfl rfl rfl | fail "k_enter: no rule for these arguments"); (case h220hc5 => decide); (case h220hkB => exact locs rfl); (case h220hc2 => exact rfl); (case h220hc3 => exact rfl); (case h220hc4 => exact rfl); k_whole; intro qg' qL' qh' qFG' qF' qN' qX' qT'; (try dsimp only); (try k_fold))))
  (k_with "k_mem" => (assumption))
  (k_with "k_all" => ((intro qp9 qhp9; (repeat' first | exact qhp9 | refine List.Mem.tail _ ?_))))
  (k_with "eval Name" => ((k_here; k_dflt (refine' nameX_L ?h223hF ?h223hv ?_ ?h223ha ?h223hb; (case h223hF => k_asm); (case h223ha => rfl); (case h223hb => rfl); (case h223hv => assumption); k_whole))))
  (k_with "exec Assign cons ListComp" => ((k_here; k_dflt (refine' ALC_F ?h224hF ?h224hk0 ?h224hks ?h224hk1 ?h224hk2 ?h224hk3 ?h224hk4 ?h224hk5 ?h224hk6 ?h224hky ?h224hkp ?_; (case h224hF => k_asm); (case h224hk0 => rfl); (case h224hks => with_unfolding_all rfl); (case h224hk1 => with_unfolding_all rfl); (case h224hk2 => decide); (case h224hk3 => rfl); (case h224hk4 => decide); (case h224hk5 => rfl); (case h224hk6 => decide); (case h224hky => rfl); (case h224hkp => rfl); k_whole))))
  (k_with "subscriptTail" => ((k_here; (with_reducible show wpAny _ _ (subscriptTail _ _ (Value.ref _) (Value.int _ _)) _ _ _); k_dflt (refine' itemL ?h225hk1 ?h225hk2 ?h225hk3 ?h225hk4 ?h225hk5 ?_ ?h225hk6; (case h225hk1 => k_asm); (case h225hk2 => k_mem); (case h225hk5 => assumption); (case h225hk3 => assumption); (case h225hk4 => omega); (case h225hk6 => with_unfolding_all rfl); k_whole))))
  (k_with "call ref" => ((k_here; (with_reducible show wpAny _ _ (call (Value.ref 183) [Value.int _ _, Value.ref _, _]) _ _ _); k_dflt (refine' cmp_W ?h226hB ?h226hF ?h226hN ?h226hX ?h226hT ?h226hhef ?h226hhck ?h226hhdp ?h226hhun ?h226hR ?h226hO ?h226hhs ?_; (case h226hB => assumption); (case h226hO => assumption); (case h226hR => assumption); (case h226hF => k_asm); (case h226hN => k_asm); (case h226hX => k_asm); (case h226hT => k_asm); (case h226hhef => exact rfl); (case h226hhck => exact rfl); (case h226hhdp => (first | exact lt_0 (by assumption) rfl | exact lt_1 (by assumption) rfl | exact lt_2 (by assumption) rfl | exact lt_3 (by assumption) rfl | ((try dsimp only); omega))); (case h226hhun => (first | exact lt_0 (by assumption) rfl | exact lt_1 (by assumption) rfl | exact lt_2 (by assumption) rfl | exact lt_3 (by assumption) rfl | ((try dsimp only); omega))); (case h226hhs => k_all); k_whole); intro qv' qh' qtk' qV' qF' qN'; (try k_sweep))))
  conv at hb => rhs; whnf
  conv at hsc => rhs; whnf
  subst hb hsc
  k_steps
  refine ⟨6, _, _, (Ij, oj) :: (Ik, ok) :: cells7 L o1 o2 o3 o4 o5 o6 o7 [(ln, listOf vs.toArray k), (lm, listOf (xs.map Value.ref).toArray k'), (ld, listOf (ds.map Value.ref).toArray k'')], nw, JT al nw, SrcOk.range (by assumption) (by decide) (by decide), (fun p hp => by cases hp), rfl, ?_, by assumption, by assumption, G, JT.zero al nw, ?_, ?_, ?_⟩
  · rw [sizeLine_eq]; decide
  · rintro i ys nw' ⟨_, _, h⟩
    exact h.noTxt
  · rintro i v ys nw₁ I oI C oC m₂ D h tk E' hi ⟨t, rfl⟩ ⟨rfl, hl, ht⟩ G' nC hx F' N'
    refine wpAny_tests_nil ?_
    rw [if_pos rfl]
    k_steps
    (with_reducible rename Fr _ _ _ _ => F9); (with_reducible rename News _ _ _ _ => N9)
    (with_reducible rename CmpV _ _ _ => V9)
    refine ⟨_, _, nw₁, rfl, F9, N9, G', rfl, by simp [hl], ht.snoc ?_⟩
    rw [hl]
    simpa using V9
  · rintro D h tk ys nw' F' N' G' hD ⟨rfl, hl, ht⟩
    k_steps
    exact hQ D ys _ _ F' N' hl ht
end
end Mine
namespace Mine
open Classical
open PyProof.Rows.LCg
def JB (nw : List (Addr × Obj)) (i : Nat) (ys : List Value) (nw' : List (Addr × Obj)) : Prop := nw' = nw ∧ ys = List.replicate i (.bool true)
theorem JB.zero (nw : List (Addr × Obj)) : JB nw 0 [] nw := ⟨rfl, rfl⟩
theorem JB.noTxt {nw nw' : List (Addr × Obj)} {i : Nat} {ys : List Value} (h : JB nw i ys nw') : NoTxt ys := noTxt_all fun v hv => by
  rw [h.2] at hv
  rw [List.eq_of_mem_replicate hv]
  exact ⟨fun _ _ e => (by cases e), fun _ _ e => (by cases e)⟩
theorem JB.next {nw nw' : List (Addr × Obj)} {i : Nat} {ys : List Value} (h : JB nw i ys nw') : JB nw (i + 1) (ys ++ [.bool true]) nw' := ⟨h.1, by rw [h.2, List.replicate_succ']⟩
def jB3 : List Stmt := match jBody with
  | [_, _, _, a, b] => [a, b]
  | _ => []
section
variable {w : World} {p : Program} {loose : List Str} {mean : ExcName → Option Value} {mg mb : Str → Option Value} {dp un : Nat} {gd : Option (List Code)} {s : Shared} {h₀ : Heap} {L fa : Addr} {cd : Value} {nm : Str} {sc : Scope} {A₀ : Around} {m : Str → Option Value}
section
open PySem.SeqAt PySem.MeetsSeq
theorem ne_lists {A : Around} {Q E : Value → Shared → Prop} {all : List (Addr × Obj)} {D D' : Addr} {ys zs : List Value} {k k' : Nat} (N : News h₀ L s.heap all) (h1 : (D, listOf ys.toArray k) ∈ all) (h2 : (D', listOf zs.toArray k') ∈ all) (hl : ys.length = zs.length) (hu : A.units + 8 < cLine)
    (he : ∀ (j : Nat) (u v : Value), ys[j]? = some u → zs[j]? = some v → (∃ b, u = .bool b ∧ v = .bool b) ∨ ∃ x t t', u = .str x t ∧ v = .str x t') (h : Q (.bool false) s) : wpAny (model PR w) A (compareOp .NotEq (.ref D) (.ref D')) Q E s := by
  have l1 : s.heap.IsList D ys.toArray := ⟨_, (N _ h1).1, rfl, _, rfl⟩
  have l2 : s.heap.IsList D' zs.toArray := ⟨_, (N _ h2).1, rfl, _, rfl⟩
  have key := RcNeAt.lists (A := A) (e := fun _ => true) l1 l2 hl (room_here hu) (fun j h1 h2 => by
    have h1' : j < ys.length := h1
    have h2' : j < zs.length := h2
    show EqAt _ _ ys[j] zs[j] true
    rcases he j ys[j] zs[j] (List.getElem?_eq_getElem h1') (List.getElem?_eq_getElem h2') with ⟨b, p, q⟩ | ⟨x, t, t', p, q⟩
    · rw [p, q]; exact .same _
    · rw [p, q]; exact (beq_self_eq_true x : (x == x) = true) ▸ EqAt.str_str x t x t')
  rw [all_true] at key
  exact key PR w E Q h
theorem ne_yes {A : Around} {Q E : Value → Shared → Prop} {all : List (Addr × Obj)} {D D' : Addr} {ys : List Value} {k k' : Nat} (ht : Told true ys) (hl : ys.length = 6) (N : News h₀ L s.heap all) (h1 : (D, listOf ys.toArray k) ∈ all)
    (h2 : (D', listOf #[.bool true, .bool false, .bool false, .bool false, .bool true, .bool true] k') ∈ all) (hu : A.units + 8 < cLine) (h : Q (.bool false) s) : wpAny (model PR w) A (compareOp .NotEq (.ref D) (.ref D')) Q E s := by
  refine ne_lists (zs := [.bool true, .bool false, .bool false, .bool false, .bool true, .bool true]) N h1 h2 hl hu (fun j u v e1 e2 => .inl ?_) h
  rcases ht j u e1 with ⟨_, rfl⟩ | ⟨e, _⟩
  · have hc := nat6 j (hl ▸ (List.getElem?_eq_some_iff.mp e1).1)
    rcases hc with rfl | rfl | rfl | rfl | rfl | rfl <;> cases e2 <;> exact ⟨_, rfl, rfl⟩
  · cases e
end
theorem mul6 {A : Around} {Q E : Value → Shared → Prop} {all : List (Addr × Obj)} {l : Addr} {x : Str} {t u : Tok} {k : Nat} (F : Fr h₀ L s.heap m) (N : News h₀ L s.heap all) (hm : (l, listOf #[.str x t] k) ∈ all)
    (h : ∀ D h', Fr h₀ L h' m → News h₀ L h' ((D, listOf #[.str x t, .str x t, .str x t, .str x t, .str x t, .str x t] 0) :: all) → (∀ p ∈ all, p.1 < D) → Q (.ref D) { s with heap := h' }) : wpAny (model PR w) A (binaryOp .Mult (.ref l) (.int 6 u)) Q E s :=
  mul_list F N (N _ hm).1 (by decide) (by decide) (by show 1 * 6 ≤ 2 ^ 24; decide) fun h' F' N' => h _ h' F' N' fun p hp => Heap.lt_size (N p hp).1
theorem ne_no {A : Around} {Q E : Value → Shared → Prop} {all : List (Addr × Obj)} {D D' : Addr} {ys : List Value} {t : Tok} {k k' : Nat} (ht : Told false ys) (hl : ys.length = 6) (N : News h₀ L s.heap all) (h1 : (D, listOf ys.toArray k) ∈ all)
    (h2 : (D', listOf #[.str "refused" t, .str "refused" t, .str "refused" t, .str "refused" t, .str "refused" t, .str "refused" t] k') ∈ all) (hu : A.units + 8 < cLine) (h : Q (.bool false) s) : wpAny (model PR w) A (compareOp .NotEq (.ref D) (.ref D')) Q E s := by
  refine ne_lists (zs := [.str "refused" t, .str "refused" t, .str "refused" t, .str "refused" t, .str "refused" t, .str "refused" t]) N h1 h2 hl hu (fun j u v e1 e2 => .inr ?_) h
  rcases ht j u e1 with ⟨e, _⟩ | ⟨_, t', rfl⟩
  · cases e
  · have hc := nat6 j (hl ▸ (List.getElem?_eq_some_iff.mp e1).1)
    rcases hc with rfl | rfl | rfl | rfl | rfl | rfl <;> cases e2 <;> exact ⟨_, _, _, rfl, rfl⟩
theorem j_end {b : List Stmt} {Q : Flow → Shared → Prop} {E : Value → Shared → Prop} {vs ys : List Value} {xs ds : List Addr} {ln lm ld Ij Ik D : Addr} {k k' k'' : Nat} {nw : List (Addr × Obj)} {o1 o2 o3 o4 o5 o6 o7 oj ok : Obj} {al : Bool} (hb : b = jB3) (hsc : sc = lawSc)
    (X : (hd.heap_1 w.params).In h₀) (T : Top p loose mean mg mb h₀) (hdp : dp < 600) (hun : un < 100)
    (F : Fr h₀ L s.heap m) (N : News h₀ L s.heap ((D, lst ys) :: (Ij, oj) :: (Ik, ok) :: cells7 L o1 o2 o3 o4 o5 o6 o7 [(ln, listOf vs.toArray k), (lm, listOf (xs.map Value.ref).toArray k'), (ld, listOf (ds.map Value.ref).toArray k'')] ++ nw)) (G : AllGood nw)
    (d5 : o5.data = .cell (some (.bool al))) (hm : m "told" = some (.ref D)) (hl : ys.length = 6) (ht : Told al ys)
    (hQ : ∀ h' tk', Fr h₀ L h' m → News h₀ L h' ((Ij, oj) :: (Ik, ok) :: cells7 L o1 o2 o3 o4 o5 o6 o7 [(ln, listOf vs.toArray k), (lm, listOf (xs.map Value.ref).toArray k'), (ld, listOf (ds.map Value.ref).toArray k'')] ++ nw) → Q .next { s with heap := h', toks := tk' }) :
    wpAny (model PR w) (tA dp un gd (some [envOfC nm sc L fa cd])) (execs b (envOfC nm sc L fa cd)) Q E s := by
  k_with_none
  (k_with "ktr_room" => ((first | k_dflt (exact lt_0 (by assumption) rfl) | k_dflt (exact lt_1 (by assumption) rfl) | ((simp only [depth_under_make, depth_under_kw, depth_in1, depth_deeper, depth_caller, recursionLimit] at *); omega))))
  (k_with "k_room" => ((first | k_dflt (exact lt_0 (by assumption) rfl) | k_dflt (exact lt_1 (by assumption) rfl) | ((simp only [depth_under_make, depth_under_kw, depth_in1, depth_deeper, depth_caller, recursionLimit] at *); omega))))
  (k_with "k_units" => ((first | k_dflt (exact lt_0 (by assumption) rfl) | k_dflt (exact lt_1 (by assumption) rfl) | k_dflt (exact lt_2 (by assumption) rfl) | k_dflt (exact lt_3 (by assumption) rfl) | ((have qhcL9 := cLine_is); (simp only [units_in1, units_deeper, Around.mark_units, units_caller, cLine] at *); omega))))
  (k_with "execs cons" => (((first | (with_reducible show wpAny _ _ _ _ _ (Shared.mk _ _ _ (_ + 1) _)) | (with_reducible show wpAny _ _ _ _ _ (Shared.mk _ _ _ (Shared.toks (Shared.mk _ _ _ _ _)) _))); refine tok_gen (fun tk => ?_))))
  (k_with "k_enter" => ((refine' code_defN ?h231hk2 ?h231hk3 ?h231hk4 ?h231hk5 ?h231hk6 ?h231hk7 ?h231hk8 ?h231hk9 ?h231hkB ?_ ?h231hc2 ?h231hc3 ?h231hc4 ?h231hc5; (case h231hk2 => k_asm); (case h231hk3 => k_asm); (case h231hk4 => k_asm); (case h231hk5 => k_asm); (case h231hk6 => k_is); (case h231hk7 => k_is); (case h231hk8 => k_room); (case h231hk9 => first | exact BindsTo.of_eq rfl | exact binds_K (by k_in) rfl (by k_is) rfl rfl rfl | fail "k_enter: no rule for these arguments"); (case h231hc5 => decide); (case h231hkB => exact locs rfl); (case h231hc2 => exact rfl); (case h231hc3 => exact rfl); (case h231hc4 => exact rfl); k_whole; intro qg' qL' qh' qFG' qF' qN' qX' qT'; (try dsimp only); (try k_fold))))
  (k_with "compareOp NotEq ref ref" => ((k_here; k_dflt (refine' ne_no ?h232ht ?h232hl ?h232hN ?h232ha ?h232hb ?h232hu ?_; (case h232ht => assumption); (case h232hl => assumption); (case h232hN => k_asm); (case h232ha => k_mem); (case h232hb => k_mem); (case h232hu => k_units); k_whole))))
  (k_with "binaryOp Mult ref int" => ((k_here; k_dflt (refine' mul6 ?h233hF ?h233hN ?h233ha ?_; (case h233hF => k_asm); (case h233hN => k_asm); (case h233ha => k_mem); k_whole); intro qD' qh' qF' qN' ql1; (try k_lt ql1); (try k_sweep))))
  (k_with "compareOp NotEq ref ref" => ((k_here; k_dflt (refine' ne_yes ?h234ht ?h234hl ?h234hN ?h234ha ?h234hb ?h234hu ?_; (case h234ht => assumption); (case h234hl => assumption); (case h234hN => k_asm); (case h234ha => k_mem); (case h234hb => k_mem); (case h234hu => k_units); k_whole))))
  (k_with "k_mem" => (assumption))
  (k_with "eval Name" => ((k_here; k_dflt (refine' nameX_L ?h236hF ?h236hv ?_ ?h236ha ?h236hb; (case h236hF => k_asm); (case h236ha => rfl); (case h236hb => rfl); (case h236hv => assumption); k_whole))))
  (k_with "eval ListComp" => ((k_here; k_dflt (refine' LC_F ?h237hF ?h237hk1 ?h237hk2 ?h237hk3 ?h237hk4 ?h237hk5 ?h237hk6 ?_; (case h237hF => k_asm); (case h237hk1 => with_unfolding_all rfl); (case h237hk2 => decide); (case h237hk3 => rfl); (case h237hk4 => decide); (case h237hk5 => rfl); (case h237hk6 => decide); k_whole))))
  conv at hb => rhs; whnf
  conv at hsc => rhs; whnf
  subst hb hsc
  cases al with
  | true =>
    k_steps
    refine ⟨_, _, _, (D, lst ys) :: (Ij, oj) :: (Ik, ok) :: cells7 L o1 o2 o3 o4 o5 o6 o7 [(ln, listOf vs.toArray k), (lm, listOf (xs.map Value.ref).toArray k'), (ld, listOf (ds.map Value.ref).toArray k'')], nw, JB nw, SrcOk.list (vs := ys) (k := ys.length), ?_, rfl, ?_, by assumption, by assumption, G, JB.zero nw, ?_, ?_, ?_⟩
    · intro p hp
      rw [List.mem_singleton.mp hp]
      exact List.Mem.head _
    · rw [hl, sizeLine_eq]; decide
    · intro i ys nw' h
      exact h.noTxt
    · rintro i v ys' nw₁ I oI C oC m₂ D2 h tk E' hi hP ⟨rfl, rfl⟩ G' nC hx F' N'
      refine wpAny_tests_nil ?_
      rw [if_pos rfl]
      have hv := ht i v hP
      rcases hv with ⟨_, rfl⟩ | ⟨e, _⟩
      · k_steps
        exact ⟨_, _, nw₁, rfl, F', N', G', JB.next ⟨rfl, rfl⟩⟩
      · cases e
    · rintro D2 h tk ys' nw' F' N' G' hD ⟨rfl, rfl⟩
      rw [hl] at N'
      simp only [List.replicate] at N'
      k_steps
      (with_reducible rename Fr _ _ _ _ => F9); (with_reducible rename News _ _ _ _ => N9)
      exact hQ _ _ F9 fun p hp => N9 p (.tail _ (.tail _ (.tail _ hp)))
  | false =>
    k_steps
    refine ⟨_, _, _, (D, lst ys) :: (Ij, oj) :: (Ik, ok) :: cells7 L o1 o2 o3 o4 o5 o6 o7 [(ln, listOf vs.toArray k), (lm, listOf (xs.map Value.ref).toArray k'), (ld, listOf (ds.map Value.ref).toArray k'')], nw, JB nw, SrcOk.list (vs := ys) (k := ys.length), ?_, rfl, ?_, by assumption, by assumption, G, JB.zero nw, ?_, ?_, ?_⟩
    · intro p hp
      rw [List.mem_singleton.mp hp]
      exact List.Mem.head _
    · rw [hl, sizeLine_eq]; decide
    · intro i ys nw' h
      exact h.noTxt
    · rintro i v ys' nw₁ I oI C oC m₂ D2 h tk E' hi hP ⟨rfl, rfl⟩ G' nC hx F' N'
      refine wpAny_tests_nil ?_
      rw [if_pos rfl]
      have hv := ht i v hP
      rcases hv with ⟨e, _⟩ | ⟨_, t, rfl⟩
      · cases e
      · k_steps
        exact ⟨_, _, nw₁, rfl, F', N', G', JB.next ⟨rfl, rfl⟩⟩
    · rintro D2 h tk ys' nw' F' N' G' hD ⟨rfl, rfl⟩
      rw [hl] at N'
      simp only [List.replicate] at N'
      k_steps
      (with_reducible rename Fr _ _ _ _ => F9); (with_reducible rename News _ _ _ _ => N9)
      exact hQ _ _ F9 fun p hp => N9 p (.tail _ (.tail _ (.tail _ (.tail _ hp))))
end
end Mine
namespace Mine
open Classical
open PyProof.Rows.LCg
theorem execs_lit3 {M : Model} {A : Around} {env : Env} {a b c d e : Stmt} {Q : Flow → Shared → Prop} {E : Value → Shared → Prop} {s : Shared} (h : wpAny M A (execs [a, b] env) (fun f s₁ => f = .next ∧ wpAny M A (execs [c] env) (fun f s₂ => f = .next ∧ wpAny M A (execs [d, e] env) Q E s₂) E s₁) E s) :
    wpAny M A (execs [a, b, c, d, e] env) Q E s :=
  execs_cut _ [a, b] [c, d, e] h fun s₁ h₁ => execs_cut _ [c] [d, e] h₁ fun _ h₂ => h₂
/-- the law's lists -/
abbrev lists3 (ln lm ld : Addr) (vs : List Value) (xs ds : List Addr) (k k' k'' : Nat) : List (Addr × Obj) := [(ln, listOf vs.toArray k), (lm, listOf (xs.map Value.ref).toArray k'), (ld, listOf (ds.map Value.ref).toArray k'')]
section
variable {w : World} {p : Program} {loose : List Str} {mean : ExcName → Option Value} {mg mb : Str → Option Value} {dp un : Nat} {gd : Option (List Code)} {s : Shared} {h₀ : Heap} {L fa : Addr} {cd : Value} {nm : Str} {sc : Scope} {A₀ : Around} {m : Str → Option Value}
theorem j_body {b : List Stmt} {E : Value → Shared → Prop} {vs : List Value} {xs ds : List Addr} {ln lm ld Ij Ik : Addr} {k k' k'' : Nat} {nw : List (Addr × Obj)} {o1 o2 o3 o4 o5 o6 o7 oj ok : Obj} {v4 v5 : Option Value} {kz jz nk nj : Int} {t2 t3 : Tok} {dk dj xk xj : Addr} (hb : b = jBody) (hsc : sc = lawSc)
    (B : Below A₀ h₀ [] h₀) (X : (hd.heap_1 w.params).In h₀) (T : Top p loose mean mg mb h₀) (hdp : dp < 600) (hun : un < 100)
    (F : Fr h₀ L s.heap m) (N : News h₀ L s.heap ((Ij, oj) :: (Ik, ok) :: cells7 L o1 o2 o3 o4 o5 o6 o7 (lists3 ln lm ld vs xs ds k k' k'') ++ nw)) (G : AllGood nw)
    (hoj : ∀ v, oj.data ≠ .cell v) (hok : ∀ v, ok.data ≠ .cell v) (d1 : o1.data = .cell (some (.ref lm))) (d2 : o2.data = .cell (some (.int kz t2))) (d3 : o3.data = .cell (some (.int jz t3))) (d4 : o4.data = .cell v4) (d5 : o5.data = .cell v5)
    (hk0 : 0 ≤ kz) (hk5 : kz < 5) (hj0 : 0 ≤ jz) (hj5 : jz < 5) (hdk : (ds.map Value.ref)[kz.toNat]? = some (.ref dk)) (hdj : (ds.map Value.ref)[jz.toNat]? = some (.ref dj)) (Dk : DueN nw nk dk) (Dj : DueN nw nj dj) (hm : m "dues" = some (.ref ld))
    (hxk : (xs.map Value.ref)[kz.toNat]? = some (.ref xk)) (hxj : (xs.map Value.ref)[jz.toNat]? = some (.ref xj)) (R : RefN nw nk xk) (O : Oth nw xk nk (alB kz jz nk nj) (.ref xj)) :
    wpAny (model PR w) (tA dp un gd (some [envOfC nm sc L fa cd])) (execs b (envOfC nm sc L fa cd)) (fun f s' => f = .next ∧ ∃ h' tk' m' o4' o5', s' = { s with heap := h', toks := tk' } ∧ Fr h₀ L h' m' ∧ News h₀ L h' ((Ij, oj) :: (Ik, ok) :: cells7 L o1 o2 o3 o4' o5' o6 o7 (lists3 ln lm ld vs xs ds k k' k'') ++ nw) ∧ CellO o4' ∧ CellO o5' ∧ ∀ z : Str, z ≠ "other" → z ≠ "told" → m' z = m z) E s := by
  conv at hb => rhs; whnf
  subst hb
  refine execs_lit3 (j_pre rfl hsc X T hdp hun F N G hoj hok d2 d3 d4 d5 hk0 hk5 hj0 hj5 hdk hdj Dk Dj hm fun o4' o5' m₁ h₁ tk₁ d4' d5' F₁ hm₁ N₁ => ⟨rfl, ?_⟩)
  refine j_told rfl hsc B X T hdp hun F₁ N₁ G d1 d2 d3 hk0 hk5 hj0 hj5 hxk hxj R O fun D ys h₂ tk₂ F₂ N₂ hl ht => ⟨rfl, ?_⟩
  refine j_end rfl hsc X T hdp hun F₂ N₂ G d5' rfl hl ht fun h₃ tk₃ F₃ N₃ => ⟨rfl, h₃, tk₃, _, o4', o5', rfl, F₃, N₃, d4', ⟨_, d5'⟩, fun z h1 h2 => ?_⟩
  show (if z = Str.ofString "told" then _ else _) = _
  rw [if_neg h2, hm₁ z h1]
def kB1 : List Stmt := match kBody with
  | a :: _ => [a]
  | _ => []
def kB2 : List Stmt := match kBody with
  | _ :: a :: _ => [a]
  | _ => []
def kB3 : List Stmt := match kBody with
  | _ :: _ :: r => r
  | _ => []
theorem range_n {n : Nat} (h : n ≤ 5) : Builtin.Range.small 0 (n : Int) 1 = true ∧ Builtin.Range.rangeSize 0 (n : Int) 1 = (n : Int) := by
  have hc : n = 0 ∨ n = 1 ∨ n = 2 ∨ n = 3 ∨ n = 4 ∨ n = 5 := by omega
  rcases hc with rfl | rfl | rfl | rfl | rfl | rfl <;> decide
theorem get_map {xs : List Addr} {i : Nat} (h : i < xs.length) : (xs.map Value.ref)[((i : Nat) : Int).toNat]? = some (.ref (xs[i])) := by
  rw [Int.toNat_natCast, List.getElem?_map, List.getElem?_eq_getElem h]; rfl
theorem off_c {L I : Addr} {o1 o2 o3 o4 o5 o6 o7 u1 u2 u3 u4 u5 u6 u7 : Obj} {r : List (Addr × Obj)} (h : ∀ p ∈ cells7 L o1 o2 o3 o4 o5 o6 o7 r, p.1 ≠ I) : ∀ p ∈ cells7 L u1 u2 u3 u4 u5 u6 u7 r, p.1 ≠ I := by
  intro p hp
  rcases List.mem_cons.mp hp with rfl | hp
  · exact h (_, o7) (.head _)
  rcases List.mem_cons.mp hp with rfl | hp
  · exact h (_, o6) (.tail _ (.head _))
  rcases List.mem_cons.mp hp with rfl | hp
  · exact h (_, o5) (.tail _ (.tail _ (.head _)))
  rcases List.mem_cons.mp hp with rfl | hp
  · exact h (_, o4) (.tail _ (.tail _ (.tail _ (.head _))))
  rcases List.mem_cons.mp hp with rfl | hp
  · exact h (_, o3) (.tail _ (.tail _ (.tail _ (.tail _ (.head _)))))
  rcases List.mem_cons.mp hp with rfl | hp
  · exact h (_, o2) (.tail _ (.tail _ (.tail _ (.tail _ (.tail _ (.head _))))))
  rcases List.mem_cons.mp hp with rfl | hp
  · exact h (_, o1) (.tail _ (.tail _ (.tail _ (.tail _ (.tail _ (.tail _ (.head _)))))))
  · exact h p (.tail _ (.tail _ (.tail _ (.tail _ (.tail _ (.tail _ (.tail _ hp)))))))
theorem off_ic {L I Ik : Addr} {ok uk o1 o2 o3 o4 o5 o6 o7 u1 u2 u3 u4 u5 u6 u7 : Obj} {r : List (Addr × Obj)} (h : ∀ p ∈ (Ik, ok) :: cells7 L o1 o2 o3 o4 o5 o6 o7 r, p.1 ≠ I) : ∀ p ∈ (Ik, uk) :: cells7 L u1 u2 u3 u4 u5 u6 u7 r, p.1 ≠ I := by
  intro p hp
  rcases List.mem_cons.mp hp with rfl | hp
  · exact h (_, ok) (.head _)
  · exact off_c (fun p hp => h p (.tail _ hp)) p hp
/-- what the j-loop leaves -/
def JJ (m₀ : Str → Option Value) (mtf : Obj → Obj → Obj → List (Addr × Obj)) (nw : List (Addr × Obj)) (_ : Nat) (m' : Str → Option Value) (mt nw' : List (Addr × Obj)) : Prop :=
  nw' = nw ∧ (∃ o3 o4 o5, mt = mtf o3 o4 o5 ∧ CellO o3 ∧ CellO o4 ∧ CellO o5) ∧ ∀ z : Str, z ≠ "other" → z ≠ "told" → m' z = m₀ z
theorem oth_of {nw : List (Addr × Obj)} {ns : List Int} {xs : List Addr} {a b : Nat} {n k : Int} {x y : Addr} (hR : Refs nw ns xs) (hnd : xs.Nodup) (hn : ns[a]? = some n) (hk : ns[b]? = some k) (hx : xs[a]? = some x) (hy : xs[b]? = some y) : Oth nw x n (alB (a : Int) (b : Int) n k) (.ref y) := by
  by_cases e : a = b
  · subst e
    rw [hx] at hy
    cases hy
    have : alB (a : Int) (a : Int) n k = true := by simp [alB]
    rw [this]
    exact .same
  · have hne : x ≠ y := fun q => by
      subst q
      obtain ⟨h1, h2⟩ := List.getElem?_eq_some_iff.mp hx
      obtain ⟨h3, h4⟩ := List.getElem?_eq_some_iff.mp hy
      have hp := List.pairwise_iff_getElem.mp hnd
      rcases Nat.lt_or_gt_of_ne e with q | q
      · exact hp a b h1 h3 q (h2.trans h4.symm)
      · exact hp b a h3 h1 q (h4.trans h2.symm)
    have : alB (a : Int) (b : Int) n k = alikeB n k := by
      have : ¬ ((a : Int) = (b : Int)) := by omega
      simp [alB, this]
    rw [this]
    exact .ref hne (hR.2 b k y hk hy)
theorem j_loop {b : List Stmt} {Q : Flow → Shared → Prop} {E : Value → Shared → Prop} {ns : List Int} {vs : List Value} {xs ds : List Addr} {ln lm ld Ik : Addr} {k k' k'' : Nat} {nw : List (Addr × Obj)} {o1 o2 o3 o4 o5 o6 o7 ok : Obj} {ki : Nat} {t2 : Tok} (hb : b = kB2) (hsc : sc = lawSc)
    (B : Below A₀ h₀ [] h₀) (X : (hd.heap_1 w.params).In h₀) (T : Top p loose mean mg mb h₀) (hdp : dp < 600) (hun : un < 100) (hI : IntsAre vs ns) (hlen : vs.length ≤ 5) (hki : ki < vs.length)
    (F : Fr h₀ L s.heap m) (N : News h₀ L s.heap ((Ik, ok) :: cells7 L o1 o2 o3 o4 o5 o6 o7 (lists3 ln lm ld vs xs ds k k' k'') ++ nw)) (G : AllGood nw)
    (hok : ∀ v, ok.data ≠ .cell v) (d1 : o1.data = .cell (some (.ref lm))) (d2 : o2.data = .cell (some (.int (ki : Int) t2))) (d3 : CellO o3) (d4 : CellO o4) (d5 : CellO o5)
    (hm : m "dues" = some (.ref ld)) (hmn : m "numbers" = some (.ref ln)) (hR : Refs nw ns xs) (hnd : xs.Nodup) (hD : Dues nw ns ds)
    (hQ : ∀ h' tk' m' o3' o4' o5', Fr h₀ L h' m' → News h₀ L h' ((Ik, ok) :: cells7 L o1 o2 o3' o4' o5' o6 o7 (lists3 ln lm ld vs xs ds k k' k'') ++ nw) → CellO o3' → CellO o4' → CellO o5' → (∀ z : Str, z ≠ "other" → z ≠ "told" → m' z = m z) → Q .next { s with heap := h', toks := tk' }) :
    wpAny (model PR w) (tA dp un gd (some [envOfC nm sc L fa cd])) (execs b (envOfC nm sc L fa cd)) Q E s := by
  k_with_none
  (k_with "ktr_room" => ((first | k_dflt (exact lt_0 (by assumption) rfl) | k_dflt (exact lt_1 (by assumption) rfl) | ((simp only [depth_under_make, depth_under_kw, depth_in1, depth_deeper, depth_caller, recursionLimit] at *); omega))))
  (k_with "k_room" => ((first | k_dflt (exact lt_0 (by assumption) rfl) | k_dflt (exact lt_1 (by assumption) rfl) | ((simp only [depth_under_make, depth_under_kw, depth_in1, depth_deeper, depth_caller, recursionLimit] at *); omega))))
  (k_with "k_units" => ((first | k_dflt (exact lt_0 (by assumption) rfl) | k_dflt (exact lt_1 (by assumption) rfl) | k_dflt (exact lt_2 (by assumption) rfl) | k_dflt (exact lt_3 (by assumption) rfl) | ((have qhcL9 := cLine_is); (simp only [units_in1, units_deeper, Around.mark_units, units_caller, cLine] at *); omega))))
  (k_with "execs cons" => (((first | (with_reducible show wpAny _ _ _ _ _ (Shared.mk _ _ _ (_ + 1) _)) | (with_reducible show wpAny _ _ _ _ _ (Shared.mk _ _ _ (Shared.toks (Shared.mk _ _ _ _ _)) _))); refine tok_gen (fun tk => ?_))))
  (k_with "k_enter" => ((refine' code_defN ?h242hk2 ?h242hk3 ?h242hk4 ?h242hk5 ?h242hk6 ?h242hk7 ?h242hk8 ?h242hk9 ?h242hkB ?_ ?h242hc2 ?h242hc3 ?h242hc4 ?h242hc5; (case h242hk2 => k_asm); (case h242hk3 => k_asm); (case h242hk4 => k_asm); (case h242hk5 => k_asm); (case h242hk6 => k_is); (case h242hk7 => k_is); (case h242hk8 => k_room); (case h242hk9 => first | exact BindsTo.of_eq rfl | exact binds_K (by k_in) rfl (by k_is) rfl rfl rfl | fail "k_enter: no rule for these arguments"); (case h242hc5 => decide); (case h242hkB => exact locs rfl); (case h242hc2 => exact rfl); (case h242hc3 => exact rfl); (case h242hc4 => exact rfl); k_whole; intro qg' qL' qh' qFG' qF' qN' qX' qT'; (try dsimp only); (try k_fold))))
  (k_with "k_ne" => (first | exact Or.inr (by intro qv9 qe9; cases qe9) | exact Or.inl (show @Ne Nat _ _ by omega) | exact Or.inr (by assumption)))
  (k_with "k_all" => (first | exact List.forall_mem_nil _ | exact good_noCell (by assumption) | (refine' List.forall_mem_cons.mpr ⟨?h244ha, ?h244hb⟩; (case h244ha => k_ne); (case h244hb => k_all))))
  (k_with "k_updF" => (first | (refine' UpdC.head ?h245ha; (case h245ha => k_all)) | (refine' UpdC.tail ?h245ha ?h245hb; (case h245ha => k_ne); (case h245hb => k_updF))))
  (k_with "storeName" => ((k_here; k_dflt (refine' storeC_W ?h246hF ?h246hN ?h246hc ?h246hU ?h246hd ?_ ?h246ha ?h246hb; (case h246hF => k_asm); (case h246hN => k_asm); (case h246ha => rfl); (case h246hb => rfl); (case h246hc => rfl); (case h246hU => k_updF); (case h246hd => assumption); k_whole); intro qh' qo' qF' qN' qd'; (try dsimp only at qN'); (try k_sweep))))
  (k_with "eval Name" => ((k_here; k_dflt (refine' nameX_L ?h247hF ?h247hv ?_ ?h247ha ?h247hb; (case h247hF => k_asm); (case h247ha => rfl); (case h247hb => rfl); (case h247hv => assumption); k_whole))))
  (k_with "exec For" => ((k_here; k_dflt (refine' for_F ?h248hF ?_ ?h248ht; (case h248hF => k_asm); (case h248ht => (intro _ _; rfl))))))
  (k_with "k_mem" => (assumption))
  (k_with "call builtin:len" => ((k_here; k_dflt (refine' len_W ?h250hN ?h250hm ?h250hl ?_; (case h250hN => k_asm); (case h250hm => k_mem); (case h250hl => omega); k_whole); intro qt' qk')))
  (k_with "call type:range" => ((k_here; k_dflt (refine' range1_rows ?h251hF ?h251hN ?_; (case h251hF => k_asm); (case h251hN => k_asm); k_whole); intro qh' qk' qt' qu' qv' qR' qF' qN' qkp')))
  conv at hb => rhs; whnf
  conv at hsc => rhs; whnf
  subst hb hsc
  k_steps
  have hln : ns.length = vs.length := hI.length.symm
  have hlx : xs.length = vs.length := hR.1.trans hln
  have hld : ds.length = vs.length := hD.1.trans hln
  refine ⟨vs.length, _, _, m, (Ik, ok) :: cells7 L o1 o2 o3 o4 o5 o6 o7 (lists3 ln lm ld vs xs ds k k' k''), nw, JJ m (fun o3 o4 o5 => (Ik, ok) :: cells7 L o1 o2 o3 o4 o5 o6 o7 (lists3 ln lm ld vs xs ds k k' k'')) nw, SrcOk.range (by assumption) (range_n hlen).1 (range_n hlen).2, rfl, by assumption, by assumption, G, ⟨rfl, ⟨o3, o4, o5, rfl, d3, d4, d5⟩, fun _ _ _ => rfl⟩, (fun _ _ _ _ _ p hp => by cases hp), ?_, ?_⟩
  · rintro i v m₁ mt nw₁ I oI h tk E' hi ⟨t, rfl⟩ ⟨rfl, ⟨o3', o4', o5', rfl, ⟨v3, c3⟩, ⟨v4, c4⟩, v5, c5⟩, hm₁⟩ G' ⟨fI, hfI⟩ F' N' hoff
    have hoI : ∀ v, oI.data ≠ .cell v := fun v e => by rw [hfI] at e; cases e
    have hkx : ki < xs.length := by omega
    have hkd : ki < ds.length := by omega
    have hkn : ki < ns.length := by omega
    have hix : i < xs.length := by omega
    have hid : i < ds.length := by omega
    have hin : i < ns.length := by omega
    rw [Int.zero_add]
    refine wpAny_assign_Name ?_
    k_dflt (refine' storeC_W F' N' ?c ?U c3 (fun h' o' F₂ N₂ d' => ?_) ?a ?b; (case a => rfl); (case b => rfl); (case c => rfl); (case U => k_updF))
    try dsimp only at N₂
    refine wpAny_mono (j_body rfl rfl B X T hdp hun F₂ N₂ G' hoI hok d1 d2 d' c4 c5 (by omega) (by omega) (by omega) (by omega) (get_map hkd) (get_map hid) (hD.2 ki _ _ (List.getElem?_eq_getElem hkn) (List.getElem?_eq_getElem hkd)) (hD.2 i _ _ (List.getElem?_eq_getElem hin) (List.getElem?_eq_getElem hid)) ((hm₁ _ (by decide) (by decide)).trans hm) (get_map hkx) (get_map hix)
      (hR.2 ki _ _ (List.getElem?_eq_getElem hkn) (List.getElem?_eq_getElem hkx)) (oth_of hR hnd (List.getElem?_eq_getElem hkn) (List.getElem?_eq_getElem hin) (List.getElem?_eq_getElem hkx) (List.getElem?_eq_getElem hix))) (fun f s' hp => ?_) fun _ _ e => e
    obtain ⟨rfl, h₃, tk₃, m₃, o4'', o5'', rfl, F₃, N₃, c4', c5', hm₃⟩ := hp
    exact ⟨.inl rfl, h₃, tk₃, m₃, (Ik, ok) :: cells7 L o1 o2 o' o4'' o5'' o6 o7 (lists3 ln lm ld vs xs ds k k' k''), nw₁, rfl, F₃, N₃, G', off_ic hoff, rfl, ⟨_, _, _, rfl, ⟨_, d'⟩, c4', c5'⟩, fun z h1 h2 => (hm₃ z h1 h2).trans (hm₁ z h1 h2)⟩
  · rintro h tk m' mt' nw' F' N' G' ⟨rfl, ⟨o3', o4', o5', rfl, c3, c4, c5⟩, hm'⟩
    k_steps
    exact hQ _ _ m' o3' o4' o5' F' N' c3 c4 c5 hm'
end
end Mine
namespace Mine
open Classical
open PyProof.Rows.LCg
/-- what stands in the cell 'strange' -/
def Strange (v : Value) : Prop := (∃ i t, v = .int i t) ∨ v = .none ∨ (∃ a t, v = .str a t) ∨ ∃ a t, v = .bytes a t
theorem Strange.oth {nw : List (Addr × Obj)} {x : Addr} {n : Int} {v : Value} (h : Strange v) : Oth nw x n false v := by
  rcases h with ⟨i, t, rfl⟩ | rfl | ⟨a, t, rfl⟩ | ⟨a, t, rfl⟩
  · exact .int i t
  · exact .none
  · exact .str a t
  · exact .bytes a t
def kB3a : List Stmt := match kB3 with
  | a :: _ => [a]
  | _ => []
def kB3b : List Stmt := match kB3 with
  | [_, a] => [a]
  | _ => []
section
variable {w : World} {p : Program} {loose : List Str} {mean : ExcName → Option Value} {mg mb : Str → Option Value} {dp un : Nat} {gd : Option (List Code)} {s : Shared} {h₀ : Heap} {L fa : Addr} {cd : Value} {nm : Str} {sc : Scope} {A₀ : Around} {m : Str → Option Value}
theorem item_strange {A : Around} {Q E : Value → Shared → Prop} {all : List (Addr × Obj)} {l : Addr} {i a : Int} {x : Str} {b : Array UInt8} {t1 t2 t3 u : Tok} {k : Nat} {value slice : PySem.Expr} (N : News h₀ L s.heap all) (hm : (l, listOf #[.int a t1, .none, .str x t2, .bytes b t3] k) ∈ all)
    (h0 : 0 ≤ i) (h1 : i < 4) (h : ∀ v, Strange v → Q v s) (hs : subscripted slice false (.ref l) (.int i u) = operate [.ref l, .int i u] (getItem (.ref l) (.int i u))) : wpAny (model PR w) A (subscriptTail value slice (.ref l) (.int i u)) Q E s := by
  have key : ∃ v, ([.int a t1, .none, .str x t2, .bytes b t3] : List Value)[i.toNat]? = some v ∧ Strange v := by
    have hc : i = 0 ∨ i = 1 ∨ i = 2 ∨ i = 3 := by omega
    rcases hc with rfl | rfl | rfl | rfl
    · exact ⟨_, rfl, .inl ⟨_, _, rfl⟩⟩
    · exact ⟨_, rfl, .inr (.inl rfl)⟩
    · exact ⟨_, rfl, .inr (.inr (.inl ⟨_, _, rfl⟩))⟩
    · exact ⟨_, rfl, .inr (.inr (.inr ⟨_, _, rfl⟩))⟩
  obtain ⟨v, hv, hS⟩ := key
  exact itemL N (vs := [.int a t1, .none, .str x t2, .bytes b t3]) hm h0 (by omega) hv (h v hS) hs
theorem k_pre {b : List Stmt} {Q : Flow → Shared → Prop} {E : Value → Shared → Prop} {vs : List Value} {xs ds : List Addr} {ln lm ld Ik xk : Addr} {k k' k'' : Nat} {nw : List (Addr × Obj)} {o1 o2 o3 o4 o5 o6 o7 ok : Obj} {kz nk : Int} {t2 tn : Tok} (hb : b = kB1) (hsc : sc = lawSc)
    (X : (hd.heap_1 w.params).In h₀) (T : Top p loose mean mg mb h₀) (hdp : dp < 600) (hun : un < 100)
    (F : Fr h₀ L s.heap m) (N : News h₀ L s.heap ((Ik, ok) :: cells7 L o1 o2 o3 o4 o5 o6 o7 (lists3 ln lm ld vs xs ds k k' k'') ++ nw))
    (d1 : o1.data = .cell (some (.ref lm))) (d2 : o2.data = .cell (some (.int kz t2))) (hk0 : 0 ≤ kz) (hk5 : kz < 5) (hvk : vs[kz.toNat]? = some (.int nk tn)) (hxk : (xs.map Value.ref)[kz.toNat]? = some (.ref xk)) (R : RefN ((Ik, ok) :: cells7 L o1 o2 o3 o4 o5 o6 o7 (lists3 ln lm ld vs xs ds k k' k'') ++ nw) nk xk)
    (hmn : m "numbers" = some (.ref ln))
    (hQ : ∀ h' tk', Fr h₀ L h' m → News h₀ L h' ((Ik, ok) :: cells7 L o1 o2 o3 o4 o5 o6 o7 (lists3 ln lm ld vs xs ds k k' k'') ++ nw) → Q .next { s with heap := h', toks := tk' }) :
    wpAny (model PR w) (tA dp un gd (some [envOfC nm sc L fa cd])) (execs b (envOfC nm sc L fa cd)) Q E s := by
  k_with_none
  (k_with "ktr_room" => ((first | k_dflt (exact lt_0 (by assumption) rfl) | k_dflt (exact lt_1 (by assumption) rfl) | ((simp only [depth_under_make, depth_under_kw, depth_in1, depth_deeper, depth_caller, recursionLimit] at *); omega))))
  (k_with "k_room" => ((first | k_dflt (exact lt_0 (by assumption) rfl) | k_dflt (exact lt_1 (by assumption) rfl) | ((simp only [depth_under_make, depth_under_kw, depth_in1, depth_deeper, depth_caller, recursionLimit] at *); omega))))
  (k_with "k_units" => ((first | k_dflt (exact lt_0 (by assumption) rfl) | k_dflt (exact lt_1 (by assumption) rfl) | k_dflt (exact lt_2 (by assumption) rfl) | k_dflt (exact lt_3 (by assumption) rfl) | ((have qhcL9 := cLine_is); (simp only [units_in1, units_deeper, Around.mark_units, units_caller, cLine] at *); omega))))
  (k_with "execs cons" => (((first | (with_reducible show wpAny _ _ _ _ _ (Shared.mk _ _ _ (_ + 1) _)) | (with_reducible show wpAny _ _ _ _ _ (Shared.mk _ _ _ (Shared.toks (Shared.mk _ _ _ _ _)) _))); refine tok_gen (fun tk => ?_))))
  (k_with "k_enter" => ((refine' code_defN ?h256hk2 ?h256hk3 ?h256hk4 ?h256hk5 ?h256hk6 ?h256hk7 ?h256hk8 ?h256hk9 ?h256hkB ?_ ?h256hc2 ?h256hc3 ?h256hc4 ?h256hc5; (case h256hk2 => k_asm); (case h256hk3 => k_asm); (case h256hk4 => k_asm); (case h256hk5 => k_asm); (case h256hk6 => k_is); (case h256hk7 => k_is); (case h256hk8 => k_room); (case h256hk9 => first | exact BindsTo.of_eq rfl | exact binds_K (by k_in) rfl (by k_is) rfl rfl rfl | fail "k_enter: no rule for these arguments"); (case h256hc5 => decide); (case h256hkB => exact locs rfl); (case h256hc2 => exact rfl); (case h256hc3 => exact rfl); (case h256hc4 => exact rfl); k_whole; intro qg' qL' qh' qFG' qF' qN' qX' qT'; (try dsimp only); (try k_fold))))
  (k_with "k_mem" => (assumption))
  (k_with "k_ne" => (first | exact Or.inr (by intro qv9 qe9; cases qe9) | exact Or.inl (show @Ne Nat _ _ by omega) | exact Or.inr (by assumption)))
  (k_with "k_all" => (first | exact List.forall_mem_nil _ | exact good_noCell (by assumption) | (refine' List.forall_mem_cons.mpr ⟨?h259ha, ?h259hb⟩; (case h259ha => k_ne); (case h259hb => k_all))))
  (k_with "k_updF" => (first | (refine' UpdC.head ?h260ha; (case h260ha => k_all)) | (refine' UpdC.tail ?h260ha ?h260hb; (case h260ha => k_ne); (case h260hb => k_updF))))
  (k_with "storeName" => ((k_here; k_dflt (refine' storeC_W ?h261hF ?h261hN ?h261hc ?h261hU ?h261hd ?_ ?h261ha ?h261hb; (case h261hF => k_asm); (case h261hN => k_asm); (case h261ha => rfl); (case h261hb => rfl); (case h261hc => rfl); (case h261hU => k_updF); (case h261hd => assumption); k_whole); intro qh' qo' qF' qN' qd'; (try dsimp only at qN'); (try k_sweep))))
  (k_with "eval Name" => ((k_here; k_dflt (refine' nameX_L ?h262hF ?h262hv ?_ ?h262ha ?h262hb; (case h262hF => k_asm); (case h262ha => rfl); (case h262hb => rfl); (case h262hv => assumption); k_whole))))
  (k_with "subscriptTail" => ((k_here; (with_reducible show wpAny _ _ (subscriptTail _ _ (Value.ref _) (Value.int _ _)) _ _ _); k_dflt (refine' itemL ?h263hk1 ?h263hk2 ?h263hk3 ?h263hk4 ?h263hk5 ?_ ?h263hk6; (case h263hk1 => k_asm); (case h263hk2 => k_mem); (case h263hk5 => assumption); (case h263hk3 => assumption); (case h263hk4 => omega); (case h263hk6 => with_unfolding_all rfl); k_whole))))
  (k_with "subscriptTail" => ((k_here; (with_reducible show wpAny _ _ (subscriptTail _ _ (Value.ref _) (Value.int (Int.fmod _ 4) _)) _ _ _); k_dflt (refine' item_strange ?h264hk1 ?h264hk2 ?h264hk3 ?h264hk4 ?_ ?h264hk6; (case h264hk1 => k_asm); (case h264hk2 => k_mem); (case h264hk3 => assumption); (case h264hk4 => assumption); (case h264hk6 => with_unfolding_all rfl); k_whole); intro qv' qS')))
  (k_with "call ref" => ((k_here; (with_reducible show wpAny _ _ (call (Value.ref 176) [_, _]) _ _ _); k_dflt (refine' tells_K ?h265hF ?h265hN ?h265hX ?h265hT ?h265hd ?h265hu ?h265hR ?_; (case h265hR => assumption); (case h265hF => k_asm); (case h265hN => k_asm); (case h265hX => k_asm); (case h265hT => k_asm); (case h265hd => (first | exact lt_0 (by assumption) rfl | exact lt_1 (by assumption) rfl | exact lt_2 (by assumption) rfl | exact lt_3 (by assumption) rfl | ((try dsimp only); omega))); (case h265hu => (first | exact lt_0 (by assumption) rfl | exact lt_1 (by assumption) rfl | exact lt_2 (by assumption) rfl | exact lt_3 (by assumption) rfl | ((try dsimp only); omega))); k_whole); intro qh' qtk' qF' qN'; (try k_sweep))))
  (k_with "call ref" => ((k_here; (with_reducible show wpAny _ _ (call (Value.ref 190) [_, _]) _ _ _); k_dflt (refine' known_K ?h266hF ?h266hN ?h266hX ?h266hT ?h266hd ?h266hu ?h266hR ?_; (case h266hR => assumption); (case h266hF => k_asm); (case h266hN => k_asm); (case h266hX => k_asm); (case h266hT => k_asm); (case h266hd => (first | exact lt_0 (by assumption) rfl | exact lt_1 (by assumption) rfl | exact lt_2 (by assumption) rfl | exact lt_3 (by assumption) rfl | ((try dsimp only); omega))); (case h266hu => (first | exact lt_0 (by assumption) rfl | exact lt_1 (by assumption) rfl | exact lt_2 (by assumption) rfl | exact lt_3 (by assumption) rfl | ((try dsimp only); omega))); k_whole); intro qh' qtk' qF' qN'; (try k_sweep))))
  conv at hb => rhs; whnf
  conv at hsc => rhs; whnf
  subst hb hsc
  k_steps
  (with_reducible rename Fr _ _ _ _ => F9); (with_reducible rename News _ _ _ _ => N9)
  exact hQ _ _ F9 N9
theorem k_str {b : List Stmt} {Q : Flow → Shared → Prop} {E : Value → Shared → Prop} {vs : List Value} {xs ds : List Addr} {ln lm ld Ik dk : Addr} {k k' k'' : Nat} {nw : List (Addr × Obj)} {o1 o2 o3 o4 o5 o6 o7 ok : Obj} {v6 : Option Value} {kz nk : Int} {t2 tn : Tok} (hb : b = kB3a) (hsc : sc = lawSc)
    (X : (hd.heap_1 w.params).In h₀) (T : Top p loose mean mg mb h₀) (hdp : dp < 600) (hun : un < 100)
    (F : Fr h₀ L s.heap m) (N : News h₀ L s.heap ((Ik, ok) :: cells7 L o1 o2 o3 o4 o5 o6 o7 (lists3 ln lm ld vs xs ds k k' k'') ++ nw)) (G : AllGood nw) (hok : ∀ v, ok.data ≠ .cell v)
    (d2 : o2.data = .cell (some (.int kz t2))) (d6 : o6.data = .cell v6) (hk0 : 0 ≤ kz) (hk5 : kz < 5) (hvk : vs[kz.toNat]? = some (.int nk tn)) (hdk : (ds.map Value.ref)[kz.toNat]? = some (.ref dk)) (Dk : DueN nw nk dk)
    (hmn : m "numbers" = some (.ref ln)) (hm : m "dues" = some (.ref ld))
    (hQ : ∀ h' tk' o6' v, o6'.data = .cell (some v) → Strange v → Fr h₀ L h' m → News h₀ L h' ((Ik, ok) :: cells7 L o1 o2 o3 o4 o5 o6' o7 (lists3 ln lm ld vs xs ds k k' k'') ++ nw) → Q .next { s with heap := h', toks := tk' }) :
    wpAny (model PR w) (tA dp un gd (some [envOfC nm sc L fa cd])) (execs b (envOfC nm sc L fa cd)) Q E s := by
  k_with_none
  (k_with "ktr_room" => ((first | k_dflt (exact lt_0 (by assumption) rfl) | k_dflt (exact lt_1 (by assumption) rfl) | ((simp only [depth_under_make, depth_under_kw, depth_in1, depth_deeper, depth_caller, recursionLimit] at *); omega))))
  (k_with "k_room" => ((first | k_dflt (exact lt_0 (by assumption) rfl) | k_dflt (exact lt_1 (by assumption) rfl) | ((simp only [depth_under_make, depth_under_kw, depth_in1, depth_deeper, depth_caller, recursionLimit] at *); omega))))
  (k_with "k_units" => ((first | k_dflt (exact lt_0 (by assumption) rfl) | k_dflt (exact lt_1 (by assumption) rfl) | k_dflt (exact lt_2 (by assumption) rfl) | k_dflt (exact lt_3 (by assumption) rfl) | ((have qhcL9 := cLine_is); (simp only [units_in1, units_deeper, Around.mark_units, units_caller, cLine] at *); omega))))
  (k_with "execs cons" => (((first | (with_reducible show wpAny _ _ _ _ _ (Shared.mk _ _ _ (_ + 1) _)) | (with_reducible show wpAny _ _ _ _ _ (Shared.mk _ _ _ (Shared.toks (Shared.mk _ _ _ _ _)) _))); refine tok_gen (fun tk => ?_))))
  (k_with "k_enter" => ((refine' code_defN ?h256hk2 ?h256hk3 ?h256hk4 ?h256hk5 ?h256hk6 ?h256hk7 ?h256hk8 ?h256hk9 ?h256hkB ?_ ?h256hc2 ?h256hc3 ?h256hc4 ?h256hc5; (case h256hk2 => k_asm); (case h256hk3 => k_asm); (case h256hk4 => k_asm); (case h256hk5 => k_asm); (case h256hk6 => k_is); (case h256hk7 => k_is); (case h256hk8 => k_room); (case h256hk9 => first | exact BindsTo.of_eq rfl | exact binds_K (by k_in) rfl (by k_is) rfl rfl rfl | fail "k_enter: no rule for these arguments"); (case h256hc5 => decide); (case h256hkB => exact locs rfl); (case h256hc2 => exact rfl); (case h256hc3 => exact rfl); (case h256hc4 => exact rfl); k_whole; intro qg' qL' qh' qFG' qF' qN' qX' qT'; (try dsimp only); (try k_fold))))
  (k_with "k_mem" => (assumption))
  (k_with "k_ne" => (first | exact Or.inr (by intro qv9 qe9; cases qe9) | exact Or.inl (show @Ne Nat _ _ by omega) | exact Or.inr (by assumption)))
  (k_with "k_all" => (first | exact List.forall_mem_nil _ | exact good_noCell (by assumption) | (refine' List.forall_mem_cons.mpr ⟨?h259ha, ?h259hb⟩; (case h259ha => k_ne); (case h259hb => k_all))))
  (k_with "k_updF" => (first | (refine' UpdC.head ?h260ha; (case h260ha => k_all)) | (refine' UpdC.tail ?h260ha ?h260hb; (case h260ha => k_ne); (case h260hb => k_updF))))
  (k_with "storeName" => ((k_here; k_dflt (refine' storeC_W ?h261hF ?h261hN ?h261hc ?h261hU ?h261hd ?_ ?h261ha ?h261hb; (case h261hF => k_asm); (case h261hN => k_asm); (case h261ha => rfl); (case h261hb => rfl); (case h261hc => rfl); (case h261hU => k_updF); (case h261hd => assumption); k_whole); intro qh' qo' qF' qN' qd'; (try dsimp only at qN'); (try k_sweep))))
  (k_with "eval Name" => ((k_here; k_dflt (refine' nameX_L ?h262hF ?h262hv ?_ ?h262ha ?h262hb; (case h262hF => k_asm); (case h262ha => rfl); (case h262hb => rfl); (case h262hv => assumption); k_whole))))
  (k_with "subscriptTail" => ((k_here; (with_reducible show wpAny _ _ (subscriptTail _ _ (Value.ref _) (Value.int _ _)) _ _ _); k_dflt (refine' itemL ?h263hk1 ?h263hk2 ?h263hk3 ?h263hk4 ?h263hk5 ?_ ?h263hk6; (case h263hk1 => k_asm); (case h263hk2 => k_mem); (case h263hk5 => assumption); (case h263hk3 => assumption); (case h263hk4 => omega); (case h263hk6 => with_unfolding_all rfl); k_whole))))
  (k_with "subscriptTail" => ((k_here; (with_reducible show wpAny _ _ (subscriptTail _ _ (Value.ref _) (Value.int (Int.fmod _ 4) _)) _ _ _); k_dflt (refine' item_strange ?h264hk1 ?h264hk2 ?h264hk3 ?h264hk4 ?_ ?h264hk6; (case h264hk1 => k_asm); (case h264hk2 => k_mem); (case h264hk3 => assumption); (case h264hk4 => assumption); (case h264hk6 => with_unfolding_all rfl); k_whole); intro qv' qS')))
  (k_with "call ref" => ((k_here; (with_reducible show wpAny _ _ (call (Value.ref 176) [_, _]) _ _ _); k_dflt (refine' tells_K ?h265hF ?h265hN ?h265hX ?h265hT ?h265hd ?h265hu ?h265hR ?_; (case h265hR => assumption); (case h265hF => k_asm); (case h265hN => k_asm); (case h265hX => k_asm); (case h265hT => k_asm); (case h265hd => (first | exact lt_0 (by assumption) rfl | exact lt_1 (by assumption) rfl | exact lt_2 (by assumption) rfl | exact lt_3 (by assumption) rfl | ((try dsimp only); omega))); (case h265hu => (first | exact lt_0 (by assumption) rfl | exact lt_1 (by assumption) rfl | exact lt_2 (by assumption) rfl | exact lt_3 (by assumption) rfl | ((try dsimp only); omega))); k_whole); intro qh' qtk' qF' qN'; (try k_sweep))))
  (k_with "call ref" => ((k_here; (with_reducible show wpAny _ _ (call (Value.ref 190) [_, _]) _ _ _); k_dflt (refine' known_K ?h266hF ?h266hN ?h266hX ?h266hT ?h266hd ?h266hu ?h266hR ?_; (case h266hR => assumption); (case h266hF => k_asm); (case h266hN => k_asm); (case h266hX => k_asm); (case h266hT => k_asm); (case h266hd => (first | exact lt_0 (by assumption) rfl | exact lt_1 (by assumption) rfl | exact lt_2 (by assumption) rfl | exact lt_3 (by assumption) rfl | ((try dsimp only); omega))); (case h266hu => (first | exact lt_0 (by assumption) rfl | exact lt_1 (by assumption) rfl | exact lt_2 (by assumption) rfl | exact lt_3 (by assumption) rfl | ((try dsimp only); omega))); k_whole); intro qh' qtk' qF' qN'; (try k_sweep))))
  conv at hb => rhs; whnf
  conv at hsc => rhs; whnf
  subst hb hsc
  have f0 := Int.fmod_nonneg_of_pos nk (b := 4) (by decide)
  have f4 := Int.fmod_lt_of_pos nk (b := 4) (by decide)
  obtain ⟨bk, nk', tk1, hk1, hk2, _⟩ := id Dk
  simp only [List.cons_append, List.nil_append] at N
  k_steps
  (with_reducible rename Fr _ _ _ _ => F9); (with_reducible rename News _ _ _ _ => N9); (with_reducible rename Strange _ => S9)
  exact hQ _ _ _ _ (by assumption) S9 F9 (fun p hp => N9 p (.tail _ hp))
theorem k_cmp {b : List Stmt} {Q : Flow → Shared → Prop} {E : Value → Shared → Prop} {vs : List Value} {xs ds : List Addr} {ln lm ld Ik xk : Addr} {k k' k'' : Nat} {nw : List (Addr × Obj)} {o1 o2 o3 o4 o5 o6 o7 ok : Obj} {kz nk : Int} {t2 : Tok} {v : Value} (hb : b = kB3b) (hsc : sc = lawSc)
    (B : Below A₀ h₀ [] h₀) (X : (hd.heap_1 w.params).In h₀) (T : Top p loose mean mg mb h₀) (hdp : dp < 600) (hun : un < 100)
    (F : Fr h₀ L s.heap m) (N : News h₀ L s.heap ((Ik, ok) :: cells7 L o1 o2 o3 o4 o5 o6 o7 (lists3 ln lm ld vs xs ds k k' k'') ++ nw)) (G : AllGood nw)
    (d1 : o1.data = .cell (some (.ref lm))) (d2 : o2.data = .cell (some (.int kz t2))) (d6 : o6.data = .cell (some v)) (hk0 : 0 ≤ kz) (hk5 : kz < 5) (hxk : (xs.map Value.ref)[kz.toNat]? = some (.ref xk)) (R : RefN nw nk xk) (O : Oth nw xk nk false v)
    (hQ : ∀ h' tk', Fr h₀ L h' m → News h₀ L h' ((Ik, ok) :: cells7 L o1 o2 o3 o4 o5 o6 o7 (lists3 ln lm ld vs xs ds k k' k'') ++ nw) → Q .next { s with heap := h', toks := tk' }) :
    wpAny (model PR w) (tA dp un gd (some [envOfC nm sc L fa cd])) (execs b (envOfC nm sc L fa cd)) Q E s := by
  k_with_none
  (k_with "ktr_room" => ((first | k_dflt (exact lt_0 (by assumption) rfl) | k_dflt (exact lt_1 (by assumption) rfl) | ((simp only [depth_under_make, depth_under_kw, depth_in1, depth_deeper, depth_caller, recursionLimit] at *); omega))))
  (k_with "k_room" => ((first | k_dflt (exact lt_0 (by assumption) rfl) | k_dflt (exact lt_1 (by assumption) rfl) | ((simp only [depth_under_make, depth_under_kw, depth_in1, depth_deeper, depth_caller, recursionLimit] at *); omega))))
  (k_with "k_units" => ((first | k_dflt (exact lt_0 (by assumption) rfl) | k_dflt (exact lt_1 (by assumption) rfl) | k_dflt (exact lt_2 (by assumption) rfl) | k_dflt (exact lt_3 (by assumption) rfl) | ((have qhcL9 := cLine_is); (simp only [units_in1, units_deeper, Around.mark_units, units_caller, cLine] at *); omega))))
  (k_with "execs cons" => (((first | (with_reducible show wpAny _ _ _ _ _ (Shared.mk _ _ _ (_ + 1) _)) | (with_reducible show wpAny _ _ _ _ _ (Shared.mk _ _ _ (Shared.toks (Shared.mk _ _ _ _ _)) _))); refine tok_gen (fun tk => ?_))))
  (k_with "k_enter" => ((refine' code_defN ?h256hk2 ?h256hk3 ?h256hk4 ?h256hk5 ?h256hk6 ?h256hk7 ?h256hk8 ?h256hk9 ?h256hkB ?_ ?h256hc2 ?h256hc3 ?h256hc4 ?h256hc5; (case h256hk2 => k_asm); (case h256hk3 => k_asm); (case h256hk4 => k_asm); (case h256hk5 => k_asm); (case h256hk6 => k_is); (case h256hk7 => k_is); (case h256hk8 => k_room); (case h256hk9 => first | exact BindsTo.of_eq rfl | exact binds_K (by k_in) rfl (by k_is) rfl rfl rfl | fail "k_enter: no rule for these arguments"); (case h256hc5 => decide); (case h256hkB => exact locs rfl); (case h256hc2 => exact rfl); (case h256hc3 => exact rfl); (case h256hc4 => exact rfl); k_whole; intro qg' qL' qh' qFG' qF' qN' qX' qT'; (try dsimp only); (try k_fold))))
  (k_with "k_mem" => (assumption))
  (k_with "k_ne" => (first | exact Or.inr (by intro qv9 qe9; cases qe9) | exact Or.inl (show @Ne Nat _ _ by omega) | exact Or.inr (by assumption)))
  (k_with "k_all" => (first | exact List.forall_mem_nil _ | exact good_noCell (by assumption) | (refine' List.forall_mem_cons.mpr ⟨?h259ha, ?h259hb⟩; (case h259ha => k_ne); (case h259hb => k_all))))
  (k_with "k_updF" => (first | (refine' UpdC.head ?h260ha; (case h260ha => k_all)) | (refine' UpdC.tail ?h260ha ?h260hb; (case h260ha => k_ne); (case h260hb => k_updF))))
  (k_with "storeName" => ((k_here; k_dflt (refine' storeC_W ?h261hF ?h261hN ?h261hc ?h261hU ?h261hd ?_ ?h261ha ?h261hb; (case h261hF => k_asm); (case h261hN => k_asm); (case h261ha => rfl); (case h261hb => rfl); (case h261hc => rfl); (case h261hU => k_updF); (case h261hd => assumption); k_whole); intro qh' qo' qF' qN' qd'; (try dsimp only at qN'); (try k_sweep))))
  (k_with "eval Name" => ((k_here; k_dflt (refine' nameX_L ?h262hF ?h262hv ?_ ?h262ha ?h262hb; (case h262hF => k_asm); (case h262ha => rfl); (case h262hb => rfl); (case h262hv => assumption); k_whole))))
  (k_with "subscriptTail" => ((k_here; (with_reducible show wpAny _ _ (subscriptTail _ _ (Value.ref _) (Value.int _ _)) _ _ _); k_dflt (refine' itemL ?h263hk1 ?h263hk2 ?h263hk3 ?h263hk4 ?h263hk5 ?_ ?h263hk6; (case h263hk1 => k_asm); (case h263hk2 => k_mem); (case h263hk5 => assumption); (case h263hk3 => assumption); (case h263hk4 => omega); (case h263hk6 => with_unfolding_all rfl); k_whole))))
  (k_with "subscriptTail" => ((k_here; (with_reducible show wpAny _ _ (subscriptTail _ _ (Value.ref _) (Value.int (Int.fmod _ 4) _)) _ _ _); k_dflt (refine' item_strange ?h264hk1 ?h264hk2 ?h264hk3 ?h264hk4 ?_ ?h264hk6; (case h264hk1 => k_asm); (case h264hk2 => k_mem); (case h264hk3 => assumption); (case h264hk4 => assumption); (case h264hk6 => with_unfolding_all rfl); k_whole); intro qv' qS')))
  (k_with "call ref" => ((k_here; (with_reducible show wpAny _ _ (call (Value.ref 176) [_, _]) _ _ _); k_dflt (refine' tells_K ?h265hF ?h265hN ?h265hX ?h265hT ?h265hd ?h265hu ?h265hR ?_; (case h265hR => assumption); (case h265hF => k_asm); (case h265hN => k_asm); (case h265hX => k_asm); (case h265hT => k_asm); (case h265hd => (first | exact lt_0 (by assumption) rfl | exact lt_1 (by assumption) rfl | exact lt_2 (by assumption) rfl | exact lt_3 (by assumption) rfl | ((try dsimp only); omega))); (case h265hu => (first | exact lt_0 (by assumption) rfl | exact lt_1 (by assumption) rfl | exact lt_2 (by assumption) rfl | exact lt_3 (by assumption) rfl | ((try dsimp only); omega))); k_whole); intro qh' qtk' qF' qN'; (try k_sweep))))
  (k_with "call ref" => ((k_here; (with_reducible show wpAny _ _ (call (Value.ref 190) [_, _]) _ _ _); k_dflt (refine' known_K ?h266hF ?h266hN ?h266hX ?h266hT ?h266hd ?h266hu ?h266hR ?_; (case h266hR => assumption); (case h266hF => k_asm); (case h266hN => k_asm); (case h266hX => k_asm); (case h266hT => k_asm); (case h266hd => (first | exact lt_0 (by assumption) rfl | exact lt_1 (by assumption) rfl | exact lt_2 (by assumption) rfl | exact lt_3 (by assumption) rfl | ((try dsimp only); omega))); (case h266hu => (first | exact lt_0 (by assumption) rfl | exact lt_1 (by assumption) rfl | exact lt_2 (by assumption) rfl | exact lt_3 (by assumption) rfl | ((try dsimp only); omega))); k_whole); intro qh' qtk' qF' qN'; (try k_sweep))))
  (k_with "k_all" => ((intro qp9 qhp9; (repeat' first | exact qhp9 | refine List.Mem.tail _ ?_))))
  (k_with "eval ListComp" => ((k_here; k_dflt (refine' LC_F ?h268hF ?h268hk1 ?h268hk2 ?h268hk3 ?h268hk4 ?h268hk5 ?h268hk6 ?_; (case h268hF => k_asm); (case h268hk1 => with_unfolding_all rfl); (case h268hk2 => decide); (case h268hk3 => rfl); (case h268hk4 => decide); (case h268hk5 => rfl); (case h268hk6 => decide); k_whole))))
  (k_with "call ref" => ((k_here; (with_reducible show wpAny _ _ (call (Value.ref 183) [Value.int _ _, Value.ref _, _]) _ _ _); k_dflt (refine' cmp_W ?h269hB ?h269hF ?h269hN ?h269hX ?h269hT ?h269hhef ?h269hhck ?h269hhdp ?h269hhun ?h269hR ?h269hO ?h269hhs ?_; (case h269hB => assumption); (case h269hO => assumption); (case h269hR => assumption); (case h269hF => k_asm); (case h269hN => k_asm); (case h269hX => k_asm); (case h269hT => k_asm); (case h269hhef => exact rfl); (case h269hhck => exact rfl); (case h269hhdp => (first | exact lt_0 (by assumption) rfl | exact lt_1 (by assumption) rfl | exact lt_2 (by assumption) rfl | exact lt_3 (by assumption) rfl | ((try dsimp only); omega))); (case h269hhun => (first | exact lt_0 (by assumption) rfl | exact lt_1 (by assumption) rfl | exact lt_2 (by assumption) rfl | exact lt_3 (by assumption) rfl | ((try dsimp only); omega))); (case h269hhs => k_all); k_whole); intro qv' qh' qtk' qV' qF' qN'; (try k_sweep))))
  (k_with "compareOp NotEq ref ref" => ((k_here; k_dflt (refine' ne_no ?h270ht ?h270hl ?h270hN ?h270ha ?h270hb ?h270hu ?_; (case h270ht => assumption); (case h270hl => assumption); (case h270hN => k_asm); (case h270ha => k_mem); (case h270hb => k_mem); (case h270hu => k_units); k_whole))))
  (k_with "binaryOp Mult ref int" => ((k_here; k_dflt (refine' mul6 ?h271hF ?h271hN ?h271ha ?_; (case h271hF => k_asm); (case h271hN => k_asm); (case h271ha => k_mem); k_whole); intro qD' qh' qF' qN' ql1; (try k_lt ql1); (try k_sweep))))
  conv at hb => rhs; whnf
  conv at hsc => rhs; whnf
  subst hb hsc
  k_steps
  refine ⟨6, _, _, (Ik, ok) :: cells7 L o1 o2 o3 o4 o5 o6 o7 (lists3 ln lm ld vs xs ds k k' k''), nw, JT false nw, SrcOk.range (by assumption) (by decide) (by decide), (fun p hp => by cases hp), rfl, ?_, by assumption, by assumption, G, JT.zero false nw, ?_, ?_, ?_⟩
  · rw [sizeLine_eq]; decide
  · rintro i ys nw' ⟨_, _, h⟩
    exact h.noTxt
  · rintro i v' ys nw₁ I oI C oC m₂ D h tk E' hi ⟨t, rfl⟩ ⟨rfl, hl, ht⟩ G' nC hx F' N'
    refine wpAny_tests_nil ?_
    rw [if_pos rfl]
    k_steps
    (with_reducible rename Fr _ _ _ _ => F9); (with_reducible rename News _ _ _ _ => N9)
    (with_reducible rename CmpV _ _ _ => V9)
    refine ⟨_, _, nw₁, rfl, F9, N9, G', rfl, by simp [hl], ht.snoc ?_⟩
    rw [hl]
    simpa using V9
  · rintro D h tk ys nw' F' N' G' hD ⟨rfl, hl, ht⟩
    k_steps
    (with_reducible rename Fr _ _ _ _ => F9); (with_reducible rename News _ _ _ _ => N9)
    exact hQ _ _ F9 fun p hp => N9 p (.tail _ (.tail _ (.tail _ hp)))
end
end Mine
namespace Mine
open Classical
open PyProof.Rows.LCg
theorem execs_lit4 {M : Model} {A : Around} {env : Env} {a b c d : Stmt} {Q : Flow → Shared → Prop} {E : Value → Shared → Prop} {s : Shared} (h : wpAny M A (execs [a] env) (fun f s₁ => f = .next ∧ wpAny M A (execs [b] env) (fun f s₂ => f = .next ∧ wpAny M A (execs [c] env) (fun f s₃ => f = .next ∧ wpAny M A (execs [d] env) Q E s₃) E s₂) E s₁) E s) :
    wpAny M A (execs [a, b, c, d] env) Q E s :=
  execs_cut _ [a] [b, c, d] h fun s₁ h₁ => execs_cut _ [b] [c, d] h₁ fun s₂ h₂ => execs_cut _ [c] [d] h₂ fun _ h₃ => h₃
def st3 : List Stmt := match lawB with
  | [_, _, _, a, _, _, _, _] => [a]
  | _ => []
/-- what the k-loop leaves -/
def JK (m₀ : Str → Option Value) (mtf : Obj → Obj → Obj → Obj → Obj → List (Addr × Obj)) (nw : List (Addr × Obj)) (_ : Nat) (m' : Str → Option Value) (mt nw' : List (Addr × Obj)) : Prop :=
  nw' = nw ∧ (∃ o2 o3 o4 o5 o6, mt = mtf o2 o3 o4 o5 o6 ∧ CellO o2 ∧ CellO o3 ∧ CellO o4 ∧ CellO o5 ∧ CellO o6) ∧ ∀ z : Str, z ≠ "other" → z ≠ "told" → m' z = m₀ z
section
variable {w : World} {p : Program} {loose : List Str} {mean : ExcName → Option Value} {mg mb : Str → Option Value} {dp un : Nat} {gd : Option (List Code)} {s : Shared} {h₀ : Heap} {L fa : Addr} {cd : Value} {nm : Str} {sc : Scope} {A₀ : Around} {m : Str → Option Value}
theorem k_turn {b : List Stmt} {Q : Flow → Shared → Prop} {E : Value → Shared → Prop} {ns : List Int} {vs : List Value} {xs ds : List Addr} {ln lm ld Ik : Addr} {k k' k'' : Nat} {nw : List (Addr × Obj)} {o1 o2 o3 o4 o5 o6 o7 ok : Obj} {ki : Nat} {t2 : Tok} (hb : b = kBody) (hsc : sc = lawSc)
    (B : Below A₀ h₀ [] h₀) (X : (hd.heap_1 w.params).In h₀) (T : Top p loose mean mg mb h₀) (hdp : dp < 600) (hun : un < 100) (hI : IntsAre vs ns) (hlen : vs.length ≤ 5) (hki : ki < vs.length)
    (F : Fr h₀ L s.heap m) (N : News h₀ L s.heap ((Ik, ok) :: cells7 L o1 o2 o3 o4 o5 o6 o7 (lists3 ln lm ld vs xs ds k k' k'') ++ nw)) (G : AllGood nw)
    (hok : ∀ v, ok.data ≠ .cell v) (d1 : o1.data = .cell (some (.ref lm))) (d2 : o2.data = .cell (some (.int (ki : Int) t2))) (d3 : CellO o3) (d4 : CellO o4) (d5 : CellO o5) (d6 : CellO o6)
    (hm : m "dues" = some (.ref ld)) (hmn : m "numbers" = some (.ref ln)) (hR : Refs nw ns xs) (hnd : xs.Nodup) (hD : Dues nw ns ds)
    (hQ : ∀ h' tk' m' o3' o4' o5' o6', Fr h₀ L h' m' → News h₀ L h' ((Ik, ok) :: cells7 L o1 o2 o3' o4' o5' o6' o7 (lists3 ln lm ld vs xs ds k k' k'') ++ nw) → CellO o3' → CellO o4' → CellO o5' → CellO o6' → (∀ z : Str, z ≠ "other" → z ≠ "told" → m' z = m z) → Q .next { s with heap := h', toks := tk' }) :
    wpAny (model PR w) (tA dp un gd (some [envOfC nm sc L fa cd])) (execs b (envOfC nm sc L fa cd)) Q E s := by
  k_with_none
  conv at hb => rhs; whnf
  subst hb
  have hln : ns.length = vs.length := hI.length.symm
  have hlx : xs.length = vs.length := hR.1.trans hln
  have hld : ds.length = vs.length := hD.1.trans hln
  have hkx : ki < xs.length := by omega
  have hkd : ki < ds.length := by omega
  have hkn : ki < ns.length := by omega
  obtain ⟨nk, tn, hv, hn⟩ := hI.at ki _ (List.getElem?_eq_getElem hki)
  have hvk : vs[((ki : Nat) : Int).toNat]? = some (.int nk tn) := by rw [Int.toNat_natCast, List.getElem?_eq_getElem hki, hv]
  have Rk := hR.2 ki _ _ hn (List.getElem?_eq_getElem hkx)
  have Dk := hD.2 ki _ _ hn (List.getElem?_eq_getElem hkd)
  obtain ⟨v6, d6⟩ := d6
  refine execs_lit4 (k_pre rfl hsc X T hdp hun F N d1 d2 (by omega) (by omega) hvk (get_map hkx) (Rk.mono fun p hp => List.mem_append_right _ hp) hmn fun h₁ tk₁ F₁ N₁ => ⟨rfl, ?_⟩)
  refine j_loop rfl hsc B X T hdp hun hI hlen hki F₁ N₁ G hok d1 d2 d3 d4 d5 hm hmn hR hnd hD fun h₂ tk₂ m₂ o3' o4' o5' F₂ N₂ c3 c4 c5 hm₂ => ⟨rfl, ?_⟩
  refine k_str rfl hsc X T hdp hun F₂ N₂ G hok d2 d6 (by omega) (by omega) hvk (get_map hkd) Dk ((hm₂ _ (by decide) (by decide)).trans hmn) ((hm₂ _ (by decide) (by decide)).trans hm) fun h₃ tk₃ o6' v d6' S F₃ N₃ => ⟨rfl, ?_⟩
  refine k_cmp rfl hsc B X T hdp hun F₃ N₃ G d1 d2 d6' (by omega) (by omega) (get_map hkx) Rk S.oth fun h₄ tk₄ F₄ N₄ => ?_
  exact hQ h₄ tk₄ m₂ o3' o4' o5' o6' F₄ N₄ c3 c4 c5 ⟨_, d6'⟩ hm₂
theorem k_loop {b : List Stmt} {Q : Flow → Shared → Prop} {E : Value → Shared → Prop} {ns : List Int} {vs : List Value} {xs ds : List Addr} {ln lm ld : Addr} {k k' k'' : Nat} {nw : List (Addr × Obj)} {o1 o2 o3 o4 o5 o6 o7 : Obj} (hb : b = st3) (hsc : sc = lawSc)
    (B : Below A₀ h₀ [] h₀) (X : (hd.heap_1 w.params).In h₀) (T : Top p loose mean mg mb h₀) (hdp : dp < 600) (hun : un < 100) (hI : IntsAre vs ns) (hlen : vs.length ≤ 5)
    (F : Fr h₀ L s.heap m) (N : News h₀ L s.heap (cells7 L o1 o2 o3 o4 o5 o6 o7 (lists3 ln lm ld vs xs ds k k' k'') ++ nw)) (G : AllGood nw)
    (d1 : o1.data = .cell (some (.ref lm))) (d2 : CellO o2) (d3 : CellO o3) (d4 : CellO o4) (d5 : CellO o5) (d6 : CellO o6)
    (hm : m "dues" = some (.ref ld)) (hmn : m "numbers" = some (.ref ln)) (hR : Refs nw ns xs) (hnd : xs.Nodup) (hD : Dues nw ns ds)
    (hQ : ∀ h' tk' m' o2' o3' o4' o5' o6', Fr h₀ L h' m' → News h₀ L h' (cells7 L o1 o2' o3' o4' o5' o6' o7 (lists3 ln lm ld vs xs ds k k' k'') ++ nw) → CellO o2' → CellO o3' → CellO o4' → CellO o5' → CellO o6' → (∀ z : Str, z ≠ "other" → z ≠ "told" → m' z = m z) → Q .next { s with heap := h', toks := tk' }) :
    wpAny (model PR w) (tA dp un gd (some [envOfC nm sc L fa cd])) (execs b (envOfC nm sc L fa cd)) Q E s := by
  k_with_none
  (k_with "ktr_room" => ((first | k_dflt (exact lt_0 (by assumption) rfl) | k_dflt (exact lt_1 (by assumption) rfl) | ((simp only [depth_under_make, depth_under_kw, depth_in1, depth_deeper, depth_caller, recursionLimit] at *); omega))))
  (k_with "k_room" => ((first | k_dflt (exact lt_0 (by assumption) rfl) | k_dflt (exact lt_1 (by assumption) rfl) | ((simp only [depth_under_make, depth_under_kw, depth_in1, depth_deeper, depth_caller, recursionLimit] at *); omega))))
  (k_with "k_units" => ((first | k_dflt (exact lt_0 (by assumption) rfl) | k_dflt (exact lt_1 (by assumption) rfl) | k_dflt (exact lt_2 (by assumption) rfl) | k_dflt (exact lt_3 (by assumption) rfl) | ((have qhcL9 := cLine_is); (simp only [units_in1, units_deeper, Around.mark_units, units_caller, cLine] at *); omega))))
  (k_with "execs cons" => (((first | (with_reducible show wpAny _ _ _ _ _ (Shared.mk _ _ _ (_ + 1) _)) | (with_reducible show wpAny _ _ _ _ _ (Shared.mk _ _ _ (Shared.toks (Shared.mk _ _ _ _ _)) _))); refine tok_gen (fun tk => ?_))))
  (k_with "k_enter" => ((refine' code_defN ?h276hk2 ?h276hk3 ?h276hk4 ?h276hk5 ?h276hk6 ?h276hk7 ?h276hk8 ?h276hk9 ?h276hkB ?_ ?h276hc2 ?h276hc3 ?h276hc4 ?h276hc5; (case h276hk2 => k_asm); (case h276hk3 => k_asm); (case h276hk4 => k_asm); (case h276hk5 => k_asm); (case h276hk6 => k_is); (case h276hk7 => k_is); (case h276hk8 => k_room); (case h276hk9 => first | exact BindsTo.of_eq rfl | exact binds_K (by k_in) rfl (by k_is) rfl rfl rfl | fail "k_enter: no rule for these arguments"); (case h276hc5 => decide); (case h276hkB => exact locs rfl); (case h276hc2 => exact rfl); (case h276hc3 => exact rfl); (case h276hc4 => exact rfl); k_whole; intro qg' qL' qh' qFG' qF' qN' qX' qT'; (try dsimp only); (try k_fold))))
  (k_with "k_ne" => (first | exact Or.inr (by intro qv9 qe9; cases qe9) | exact Or.inl (show @Ne Nat _ _ by omega) | exact Or.inr (by assumption)))
  (k_with "k_all" => (first | exact List.forall_mem_nil _ | exact good_noCell (by assumption) | (refine' List.forall_mem_cons.mpr ⟨?h278ha, ?h278hb⟩; (case h278ha => k_ne); (case h278hb => k_all))))
  (k_with "k_updF" => (first | (refine' UpdC.head ?h279ha; (case h279ha => k_all)) | (refine' UpdC.tail ?h279ha ?h279hb; (case h279ha => k_ne); (case h279hb => k_updF))))
  (k_with "eval Name" => ((k_here; k_dflt (refine' nameX_L ?h280hF ?h280hv ?_ ?h280ha ?h280hb; (case h280hF => k_asm); (case h280ha => rfl); (case h280hb => rfl); (case h280hv => assumption); k_whole))))
  (k_with "exec For" => ((k_here; k_dflt (refine' for_F ?h281hF ?_ ?h281ht; (case h281hF => k_asm); (case h281ht => (intro _ _; rfl))))))
  (k_with "k_mem" => (assumption))
  (k_with "call builtin:len" => ((k_here; k_dflt (refine' len_W ?h283hN ?h283hm ?h283hl ?_; (case h283hN => k_asm); (case h283hm => k_mem); (case h283hl => omega); k_whole); intro qt' qk')))
  (k_with "call type:range" => ((k_here; k_dflt (refine' range1_rows ?h284hF ?h284hN ?_; (case h284hF => k_asm); (case h284hN => k_asm); k_whole); intro qh' qk' qt' qu' qv' qR' qF' qN' qkp')))
  conv at hb => rhs; whnf
  conv at hsc => rhs; whnf
  subst hb hsc
  k_steps
  refine ⟨vs.length, _, _, m, cells7 L o1 o2 o3 o4 o5 o6 o7 (lists3 ln lm ld vs xs ds k k' k''), nw, JK m (fun o2 o3 o4 o5 o6 => cells7 L o1 o2 o3 o4 o5 o6 o7 (lists3 ln lm ld vs xs ds k k' k'')) nw, SrcOk.range (by assumption) (range_n hlen).1 (range_n hlen).2, rfl, by assumption, by assumption, G, ⟨rfl, ⟨o2, o3, o4, o5, o6, rfl, d2, d3, d4, d5, d6⟩, fun _ _ _ => rfl⟩, (fun _ _ _ _ _ p hp => by cases hp), ?_, ?_⟩
  · rintro i v m₁ mt nw₁ I oI h tk E' hi ⟨t, rfl⟩ ⟨rfl, ⟨o2', o3', o4', o5', o6', rfl, ⟨v2, c2⟩, c3, c4, c5, c6⟩, hm₁⟩ G' ⟨fI, hfI⟩ F' N' hoff
    have hoI : ∀ v, oI.data ≠ .cell v := fun v e => by rw [hfI] at e; cases e
    rw [Int.zero_add]
    refine wpAny_assign_Name ?_
    k_dflt (refine' storeC_W F' N' ?c ?U c2 (fun h' o' F₂ N₂ d' => ?_) ?a ?b; (case a => rfl); (case b => rfl); (case c => rfl); (case U => k_updF))
    try dsimp only at N₂
    refine k_turn rfl rfl B X T hdp hun hI hlen hi F₂ N₂ G' hoI d1 d' c3 c4 c5 c6 ((hm₁ _ (by decide) (by decide)).trans hm) ((hm₁ _ (by decide) (by decide)).trans hmn) hR hnd hD fun h₃ tk₃ m₃ o3'' o4'' o5'' o6'' F₃ N₃ e3 e4 e5 e6 hm₃ => ?_
    exact ⟨.inl rfl, h₃, tk₃, m₃, cells7 L o1 o' o3'' o4'' o5'' o6'' o7 (lists3 ln lm ld vs xs ds k k' k''), nw₁, rfl, F₃, N₃, G', off_c hoff, rfl, ⟨_, _, _, _, _, rfl, ⟨_, d'⟩, e3, e4, e5, e6⟩, fun z h1 h2 => (hm₃ z h1 h2).trans (hm₁ z h1 h2)⟩
  · rintro h tk m' mt' nw' F' N' G' ⟨rfl, ⟨o2', o3', o4', o5', o6', rfl, c2, c3, c4, c5, c6⟩, hm'⟩
    k_steps
    exact hQ _ _ m' o2' o3' o4' o5' o6' F' N' c2 c3 c4 c5 c6 hm'
end
end Mine
namespace Mine
open Classical
open PyProof.Rows.LCg
/-- what the law has seen: a number, its key in the factory's dict, its key in 'first', its reference -/
structure Seen where
  n : Int
  a1 : Addr
  a2 : Addr
  x : Addr
noncomputable def tkE (z : Seen) : D × Addr × Value := (tkD z.n, z.a1, .ref z.x)
noncomputable def kyE (z : Seen) : D × Addr × Value := (keyD z.n, z.a2, .ref z.x)
noncomputable def seen (zs : List Seen) (n : Int) : Option Seen := zs.find? fun z => decide (keyD z.n = keyD n)
theorem tk_iff {n k : Int} : tkD n = tkD k ↔ keyD n = keyD k := ⟨tk_key, key_tk⟩
theorem at_tk (zs : List Seen) (n : Int) : atKey (zs.map tkE) (tkD n) = (seen zs n).map fun z => (z.a1, .ref z.x) := by
  induction zs with
  | nil => rfl
  | cons z zs ih =>
    unfold atKey seen at ih ⊢
    rw [List.map_cons, List.find?_cons, List.find?_cons]
    by_cases h : keyD z.n = keyD n
    · have h' : (tkE z).1 = tkD n := tk_iff.mpr h
      simp only [h, h', decide_true, Option.map_some]
      rfl
    · have h' : ¬ (tkE z).1 = tkD n := fun e => h (tk_iff.mp e)
      simp only [h, h', decide_false]
      exact ih
theorem at_ky (zs : List Seen) (n : Int) : atKey (zs.map kyE) (keyD n) = (seen zs n).map fun z => (z.a2, .ref z.x) := by
  induction zs with
  | nil => rfl
  | cons z zs ih =>
    unfold atKey seen at ih ⊢
    rw [List.map_cons, List.find?_cons, List.find?_cons]
    by_cases h : keyD z.n = keyD n
    · have h' : (kyE z).1 = keyD n := h
      simp only [h, h', decide_true, Option.map_some]
      rfl
    · have h' : ¬ (kyE z).1 = keyD n := h
      simp only [h, h', decide_false]
      exact ih
theorem at_new {zs : List Seen} {n : Int} {a : Addr} {r : Value} (h : seen zs n = none) : atKey (zs.map kyE ++ [(keyD n, a, r)]) (keyD n) = some (a, r) := by
  have e := at_ky zs n
  rw [h] at e
  unfold atKey at e ⊢
  rw [List.find?_append]
  cases q : (zs.map kyE).find? (fun x => decide (x.1 = keyD n)) with
  | some y => rw [q] at e; cases e
  | none => simp
theorem keyD_ok (n : Int) : (keyD n).ok = true := by unfold keyD namesD nmD; split <;> rfl
theorem keyD_depth (n : Int) : (keyD n).depth ≤ 8 := by unfold keyD namesD nmD; split <;> exact Nat.le_of_ble_eq_true rfl
theorem oidV_txt {n : Int} {v : Value} (h : OidV n v) : (∃ x t, v = .str x t ∧ x ≠ Str.ofString "refused") ∨ ∃ x t, v = .bytes x t := by
  rcases h with ⟨_, t, rfl⟩ | ⟨_, t, rfl⟩
  · exact .inr ⟨_, _, rfl⟩
  · exact .inl ⟨_, _, rfl, oidS_not n⟩
theorem good_tup {vs : List Value} : GoodO (tupO vs) := .inl ⟨rfl, _, _, rfl⟩
theorem good_m {x : Str} {t : Tok} {v : Value} {k : Nat} (h : x ≠ Str.ofString "refused") : GoodO (listOf #[.str x t, v] k) := .inr (.inr (.inr ⟨.str x t, [v], k, rfl, .inl ⟨_, _, rfl, h⟩⟩))
theorem ValA.good {l : List (Addr × Obj)} {n : Int} {r : Value} (h : ValA l n false [] r) : ValA (good l) n false [] r := by
  rcases h with h | ⟨_, hf, hb, v', l', a, t1, t2, k, hv, rfl, hl, ha⟩
  · refine .inl ?_
    cases h with
    | f0 hf hv ha hc => exact .f0 hf hv (good_mem ha good_tup) (good_mem hc good_tup)
    | f2 h2 h4 hv => exact .f2 h2 h4 hv
    | f4 hf hv hl ha hc => exact .f4 hf hv (good_mem hl (good_m (by decide))) (good_mem ha good_tup) (good_mem hc good_tup)
    | f5 hf hv hl ha => exact .f5 hf hv (good_mem hl (good_m (by decide))) (good_mem ha good_tup)
    | f6 hf hb hv hl ha => exact .f6 hf hb hv (good_mem hl (good_m (by decide))) (good_mem ha good_tup)
    | f7 hf hv hl => exact .f7 hf hv (good_mem hl (.inr (.inr (.inr ⟨_, [], _, rfl, oidV_txt hv⟩))))
  · exact .inr ⟨rfl, hf, hb, v', l', a, t1, t2, k, hv, rfl, good_mem hl (good_m (by decide)), good_mem ha good_tup⟩
theorem DictL.good {w : World} {nw : List (Addr × Obj)} {o : Obj} {xs : List (D × Addr × Value)} (h : DictL w nw o xs) (hk : ∀ x ∈ xs, x.1.lok = true) : DictL w (good nw) o xs :=
  ⟨h.1, h.2.1, fun x hx => ⟨(h.2.2.1 x hx).1.good (hk x hx), (h.2.2.1 x hx).2⟩, h.2.2.2⟩
theorem Fac.good {w : World} {nw mf : List (Addr × Obj)} {dfa : Addr} {xs : List (D × Addr × Value)} (h : Fac w nw dfa mf xs) (hk : ∀ x ∈ xs, x.1.lok = true) : Fac w (good nw) dfa mf xs := by
  cases h with
  | fresh => exact .fresh
  | busy d a b => exact .busy (d.good hk) a b
theorem Fac.mono {w : World} {nw nw' mf : List (Addr × Obj)} {dfa : Addr} {xs : List (D × Addr × Value)} (h : Fac w nw dfa mf xs) (hs : ∀ p ∈ nw, p ∈ nw') : Fac w nw' dfa mf xs := by
  cases h with
  | fresh => exact .fresh
  | busy d a b => exact .busy (d.mono hs) a b
theorem bad_empty {k : Nat} : ¬ GoodO (dictOf [] k) := by
  rintro (⟨h, _⟩ | ⟨C, dx, h⟩ | ⟨es, k', v', h, e⟩ | ⟨v', vs, k', h, _⟩)
  · exact absurd (Value.type.inj h) (by decide)
  · cases h
  · have e1 := congrArg Obj.data h
    injection e1 with e1 e2
    have e3 : es = [] := by
      have := congrArg Array.toList e1
      simpa using this.symm
    subst e3
    cases e
  · exact absurd (Value.type.inj (congrArg Obj.cls h)) (by decide)
theorem Fac.bad {w : World} {nw mf : List (Addr × Obj)} {dfa : Addr} {xs : List (D × Addr × Value)} (h : Fac w nw dfa mf xs) : ∀ q ∈ mf, ¬ GoodO q.2 := by
  cases h with
  | fresh =>
    intro q hq
    rw [List.mem_singleton.mp hq]
    exact bad_empty
  | busy d _ _ =>
    intro q hq
    rcases List.mem_cons.mp hq with rfl | hq
    · exact bad_data
    · rw [List.mem_singleton.mp hq]
      exact bad_dictL d
/-- the state of the second half: the factory's dicts, 'first', what is frozen -/
structure Sn (w : World) (nw₀ nw mf rest : List (Addr × Obj)) (dfa fa df : Addr) (o : Obj) (xf xs : List (D × Addr × Value)) : Prop where
  sub : ∀ p ∈ nw₀, p ∈ nw
  fac : Fac w nw dfa mf xf
  fst : DictL w nw o xs
  gd : AllGood nw
  inst : (fa, instObj 130 dfa) ∈ nw
  ap : ∀ p ∈ (df, o) :: rest, ∀ q ∈ mf, p.1 ≠ q.1
  apd : ∀ p ∈ rest, p.1 ≠ df
  sm : (df == sysModules) = false
  lf : ∀ x ∈ xf, x.1.lok = true
  ls : ∀ x ∈ xs, x.1.lok = true
  refs : ∀ x ∈ xf, ∃ y, x.2.2 = .ref y
  len : xf.length ≤ 900
  lens : xs.length ≤ 900
theorem Sn.up {w : World} {nw₀ nw nw' mf rest : List (Addr × Obj)} {dfa fa df : Addr} {o : Obj} {xf xs : List (D × Addr × Value)} (h : Sn w nw₀ nw mf rest dfa fa df o xf xs) (hs : ∀ p ∈ nw, p ∈ nw') (g : AllGood nw') : Sn w nw₀ nw' mf rest dfa fa df o xf xs :=
  { h with sub := fun p hp => hs p (h.sub p hp), fac := h.fac.mono hs, fst := h.fst.mono hs, gd := g, inst := hs _ h.inst }
theorem news_f {h₀ h : Heap} {L df : Addr} {o : Obj} {mf rest nw all : List (Addr × Obj)} (N : News h₀ L h all) (h1 : ∀ p ∈ mf, p ∈ all) (h2 : (df, o) ∈ all) (h3 : ∀ p ∈ rest, p ∈ all) (h4 : ∀ p ∈ nw, p ∈ all) : News h₀ L h (mf ++ ((df, o) :: (rest ++ nw))) := fun p hp => by
  rcases List.mem_append.mp hp with hp | hp
  · exact N p (h1 p hp)
  · rcases List.mem_cons.mp hp with rfl | hp
    · exact N _ h2
    · rcases List.mem_append.mp hp with hp | hp
      · exact N p (h3 p hp)
      · exact N p (h4 p hp)
theorem in_mf {df : Addr} {o : Obj} {mf rest nw : List (Addr × Obj)} : ∀ p ∈ mf, p ∈ mf ++ ((df, o) :: (rest ++ nw)) := fun p hp => List.mem_append_left _ hp
theorem in_df {df : Addr} {o : Obj} {mf rest nw : List (Addr × Obj)} : (df, o) ∈ mf ++ ((df, o) :: (rest ++ nw)) := List.mem_append_right _ (.head _)
theorem in_rest {df : Addr} {o : Obj} {mf rest nw : List (Addr × Obj)} : ∀ p ∈ rest, p ∈ mf ++ ((df, o) :: (rest ++ nw)) := fun p hp => List.mem_append_right _ (.tail _ (List.mem_append_left _ hp))
theorem in_nw {df : Addr} {o : Obj} {mf rest nw : List (Addr × Obj)} : ∀ p ∈ nw, p ∈ mf ++ ((df, o) :: (rest ++ nw)) := fun p hp => List.mem_append_right _ (.tail _ (List.mem_append_right _ hp))
section
variable {w : World} {p : Program} {loose : List Str} {mean : ExcName → Option Value} {mg mb : Str → Option Value} {dp un : Nat} {gd : Option (List Code)} {s : Shared} {h₀ : Heap} {L : Addr} {A₀ : Around} {m : Str → Option Value} {Q E : Value → Shared → Prop}
  {nw₀ nw mf rest : List (Addr × Obj)} {dfa fa df : Addr} {o : Obj} {xf xs : List (D × Addr × Value)} {n : Int} {t : Tok}
theorem value_N {fr : Option (List Env)} (S : Sn w nw₀ nw mf rest dfa fa df o xf xs) (F : Fr h₀ L s.heap m) (N : News h₀ L s.heap (mf ++ ((df, o) :: (rest ++ nw)))) (X : (hd.heap_1 w.params).In h₀) (T : Top p loose mean mg mb h₀) (hdp : dp < 690) (hun : un < 190)
    (hret : ∀ r nw' h' tk, Fr h₀ L h' m → News h₀ L h' (mf ++ ((df, o) :: (rest ++ nw'))) → (∀ p ∈ nw, p ∈ nw') → Sn w nw₀ nw' mf rest dfa fa df o xf xs → ValA nw' n false [] r → handedIn r = true → Q r { s with heap := h', toks := tk }) :
    wpAny (model PR w) (tA dp un gd fr) (call (.ref 148) [.int n t, .bool false]) Q E s := by
  refine valueD_K F N X T hdp hun fun r nv h' tk F' N' v d => ?_
  have up : ∀ p ∈ mf ++ ((df, o) :: (rest ++ nw)), p ∈ nv ++ (mf ++ ((df, o) :: (rest ++ nw))) := fun p hp => List.mem_append_right _ hp
  have hs : ∀ p ∈ nw, p ∈ good (nv ++ (mf ++ ((df, o) :: (rest ++ nw)))) := good_sub (fun p hp => up p (in_nw p hp)) S.gd
  exact hret r _ h' tk F' (news_f N' (fun p hp => up p (in_mf p hp)) (up _ in_df) (fun p hp => up p (in_rest p hp)) fun p hp => (good_of hp).1) hs (S.up hs (good_all _)) v.good d.handed
theorem key_N {fr : Option (List Env)} (S : Sn w nw₀ nw mf rest dfa fa df o xf xs) (F : Fr h₀ L s.heap m) (N : News h₀ L s.heap (mf ++ ((df, o) :: (rest ++ nw)))) (X : (hd.heap_1 w.params).In h₀) (T : Top p loose mean mg mb h₀) (hdp : dp < 690) (hun : un < 190)
    (hret : ∀ a nw' h' tk, Fr h₀ L h' m → News h₀ L h' (mf ++ ((df, o) :: (rest ++ nw'))) → (∀ p ∈ nw, p ∈ nw') → Sn w nw₀ nw' mf rest dfa fa df o xf xs → IsL nw' (.ref a) (keyD n) → Q (.ref a) { s with heap := h', toks := tk }) :
    wpAny (model PR w) (tA dp un gd fr) (call (.ref 155) [.int n t]) Q E s := by
  refine key_K F N X T hdp hun fun a nw' h' tk up F' N' d => ?_
  have hs : ∀ p ∈ nw, p ∈ good nw' := good_sub (fun p hp => up p (in_nw p hp)) S.gd
  exact hret a _ h' tk F' (news_f N' (fun p hp => up p (in_mf p hp)) (up _ in_df) (fun p hp => up p (in_rest p hp)) fun p hp => (good_of hp).1) hs (S.up hs (good_all _)) (d.good (keyD_lok n))
theorem sn_ap (S : Sn w nw₀ nw mf rest dfa fa df o xf xs) {h : Heap} (N : News h₀ L h (mf ++ ((df, o) :: (rest ++ nw)))) : ∀ p ∈ (df, o) :: (rest ++ nw), ∀ q ∈ mf, p.1 ≠ q.1 := fun p hp q hq => by
  have key : p ∈ nw → p.1 ≠ q.1 := fun hp => apart_bad N in_nw S.gd (in_mf q hq : (q.1, q.2) ∈ _) (S.fac.bad q hq) p hp
  rcases List.mem_cons.mp hp with rfl | hp
  · exact S.ap _ (.head _) q hq
  · rcases List.mem_append.mp hp with hp | hp
    · exact S.ap p (.tail _ hp) q hq
    · exact key hp
theorem atKey_refs {xf : List (D × Addr × Value)} (h : ∀ x ∈ xf, ∃ y, x.2.2 = Value.ref y) {k : D} {q : Addr × Value} (e : atKey xf k = some q) : ∃ y, q.2 = .ref y := by
  unfold atKey at e
  obtain ⟨x, hx, rfl⟩ := Option.map_eq_some_iff.mp e
  exact h x (List.mem_of_find?_eq_some hx)
theorem load_N {env : Env} {v : Value} (S : Sn w nw₀ nw mf rest dfa fa df o xf xs) (B : Below A₀ h₀ [] h₀) (F : Fr h₀ L s.heap m) (N : News h₀ L s.heap (mf ++ ((df, o) :: (rest ++ nw)))) (X : (hd.heap_1 w.params).In h₀) (T : Top p loose mean mg mb h₀)
    (hef : env.frame = some L) (hck : env.scope.kind = .function) (hdp : dp < 670) (hun : un < 170) (hl : xf.length ≤ 800) (hval : ValA nw n false [] v)
    (hhit : ∀ q x mf' nw' h' tk, atKey xf (tkD n) = some (q, .ref x) → Fr h₀ L h' m → News h₀ L h' (mf' ++ ((df, o) :: (rest ++ nw'))) → (∀ p ∈ nw, p ∈ nw') → Sn w nw₀ nw' mf' rest dfa fa df o xf xs → Q (.ref x) { s with heap := h', toks := tk })
    (hmiss : ∀ x a mf' nw' h' tk, atKey xf (tkD n) = none → Fr h₀ L h' m → News h₀ L h' (mf' ++ ((df, o) :: (rest ++ nw'))) → (∀ p ∈ nw, p ∈ nw') → Sn w nw₀ nw' mf' rest dfa fa df o (xf ++ [(tkD n, a, .ref x)]) xs → RefN nw' n x → (∀ p ∈ nw, p.1 ≠ x) → Q (.ref x) { s with heap := h', toks := tk }) :
    wpAny (model PR w) (tA dp un gd (some [env])) (call (.ref 127) [.ref fa, v]) Q E s := by
  have hs : ∀ p ∈ nw, p ∈ (df, o) :: (rest ++ nw) := fun p hp => .tail _ (List.mem_append_right _ hp)
  refine load_K B F N X T X T ktsDicts_nil rfl hef hck hdp hun hval hs (hs _ S.inst) S.fac (sn_ap S N) (fun k q e => atKey_refs S.refs e) (Nat.le_trans S.len (by omega)) (fun q x mf' kn g' h' tk e T' F' N' fc ap => ?_) fun x a mf' kn g' h' tk e T' F' N' fc ap R hx => ?_
  · obtain ⟨F1, N1⟩ := turn0 T' F' N'
    have hk : ∀ p ∈ nw, p ∈ good (kn ++ nw) := good_sub (fun p hp => List.mem_append_right _ hp) S.gd
    have fc' : Fac w (good (kn ++ nw)) dfa mf' xf := fc.good S.lf
    have S' := S.up hk (good_all _)
    refine hhit q x mf' _ h' tk e F1 (news_f N1 (fun p hp => List.mem_append_left _ hp) (List.mem_append_right _ (List.mem_append_right _ (.head _))) (fun p hp => List.mem_append_right _ (List.mem_append_right _ (.tail _ (List.mem_append_left _ hp)))) fun p hp => ?_) hk
      { S' with fac := fc', ap := fun p hp q hq => ap p (List.mem_append_right _ (by
          rcases List.mem_cons.mp hp with rfl | hp
          · exact .head _
          · exact .tail _ (List.mem_append_left _ hp))) q hq }
    rcases List.mem_append.mp (good_of hp).1 with hp | hp
    · exact List.mem_append_right _ (List.mem_append_left _ hp)
    · exact List.mem_append_right _ (List.mem_append_right _ (hs p hp))
  · obtain ⟨F1, N1⟩ := turn0 T' F' N'
    have hk : ∀ p ∈ nw, p ∈ good (kn ++ nw) := good_sub (fun p hp => List.mem_append_right _ hp) S.gd
    have fc' : Fac w (good (kn ++ nw)) dfa mf' (xf ++ [(tkD n, a, .ref x)]) := fc.good fun y hy => by
      rcases List.mem_append.mp hy with hy | hy
      · exact S.lf y hy
      · rw [List.mem_singleton.mp hy]; exact tkD_lok n
    refine hmiss x a mf' _ h' tk e F1 (news_f N1 (fun p hp => List.mem_append_left _ hp) (List.mem_append_right _ (List.mem_append_right _ (.head _))) (fun p hp => List.mem_append_right _ (List.mem_append_right _ (.tail _ (List.mem_append_left _ hp)))) fun p hp => ?_) hk
      { sub := fun p hp => hk p (S.sub p hp), fac := fc', fst := S.fst.mono hk, gd := good_all _, inst := hk _ S.inst, apd := S.apd, sm := S.sm, ls := S.ls, lens := S.lens,
        len := by rw [List.length_append, List.length_singleton]; omega
        lf := fun y hy => by
          rcases List.mem_append.mp hy with hy | hy
          · exact S.lf y hy
          · rw [List.mem_singleton.mp hy]; exact tkD_lok n
        refs := fun y hy => by
          rcases List.mem_append.mp hy with hy | hy
          · exact S.refs y hy
          · rw [List.mem_singleton.mp hy]; exact ⟨_, rfl⟩
        ap := fun p hp q hq => ap p (List.mem_append_right _ (by
          rcases List.mem_cons.mp hp with rfl | hp
          · exact .head _
          · exact .tail _ (List.mem_append_left _ hp))) q hq } R.good fun p hp => hx p (hs p hp)
    rcases List.mem_append.mp (good_of hp).1 with hp | hp
    · exact List.mem_append_right _ (List.mem_append_left _ hp)
    · exact List.mem_append_right _ (List.mem_append_right _ (hs p hp))
theorem load_hit {env : Env} {v : Value} {q x : Addr} (S : Sn w nw₀ nw mf rest dfa fa df o xf xs) (e : atKey xf (tkD n) = some (q, .ref x)) (B : Below A₀ h₀ [] h₀) (F : Fr h₀ L s.heap m) (N : News h₀ L s.heap (mf ++ ((df, o) :: (rest ++ nw)))) (X : (hd.heap_1 w.params).In h₀) (T : Top p loose mean mg mb h₀)
    (hef : env.frame = some L) (hck : env.scope.kind = .function) (hdp : dp < 670) (hun : un < 170) (hl : xf.length ≤ 800) (hval : ValA nw n false [] v)
    (hret : ∀ mf' nw' h' tk, Fr h₀ L h' m → News h₀ L h' (mf' ++ ((df, o) :: (rest ++ nw'))) → (∀ p ∈ nw, p ∈ nw') → Sn w nw₀ nw' mf' rest dfa fa df o xf xs → Q (.ref x) { s with heap := h', toks := tk }) :
    wpAny (model PR w) (tA dp un gd (some [env])) (call (.ref 127) [.ref fa, v]) Q E s :=
  load_N S B F N X T hef hck hdp hun hl hval (fun q' x' mf' nw' h' tk e' => by rw [e] at e'; cases e'; exact hret mf' nw' h' tk) fun _ _ _ _ _ _ e' => by rw [e] at e'; cases e'
theorem load_miss {env : Env} {v : Value} (S : Sn w nw₀ nw mf rest dfa fa df o xf xs) (e : atKey xf (tkD n) = none) (B : Below A₀ h₀ [] h₀) (F : Fr h₀ L s.heap m) (N : News h₀ L s.heap (mf ++ ((df, o) :: (rest ++ nw)))) (X : (hd.heap_1 w.params).In h₀) (T : Top p loose mean mg mb h₀)
    (hef : env.frame = some L) (hck : env.scope.kind = .function) (hdp : dp < 670) (hun : un < 170) (hl : xf.length ≤ 800) (hval : ValA nw n false [] v)
    (hret : ∀ x a mf' nw' h' tk, Fr h₀ L h' m → News h₀ L h' (mf' ++ ((df, o) :: (rest ++ nw'))) → (∀ p ∈ nw, p ∈ nw') → Sn w nw₀ nw' mf' rest dfa fa df o (xf ++ [(tkD n, a, .ref x)]) xs → RefN nw' n x → (∀ p ∈ nw₀, p.1 ≠ x) → Q (.ref x) { s with heap := h', toks := tk }) :
    wpAny (model PR w) (tA dp un gd (some [env])) (call (.ref 127) [.ref fa, v]) Q E s :=
  load_N S B F N X T hef hck hdp hun hl hval (fun q' x' mf' nw' h' tk e' => by rw [e] at e'; cases e') fun x a mf' nw' h' tk _ F' N' hs S' R hx => hret x a mf' nw' h' tk F' N' hs S' R fun p hp => hx p (S.sub p hp)
variable {A : Around} {a : Addr} {all : List (Addr × Obj)}
theorem notin_hit {q : Addr × Value} (e : atKey xs (keyD n) = some q) (S : Sn w nw₀ nw mf rest dfa fa df o xf xs) (K : IsL nw (.ref a) (keyD n)) (N₀ : News h₀ L s.heap all) (hN : ∀ p ∈ mf ++ ((df, o) :: (rest ++ nw)), p ∈ all) (hu : A.in1.units + 16 < cLine) (h : ∀ tk, Q (.bool false) { s with toks := tk }) :
    wpAny (model PR w) A (compareOp .NotIn (.ref a) (.ref df)) Q E s :=
  have N : News h₀ L s.heap (mf ++ ((df, o) :: (rest ++ nw))) := fun p hp => N₀ p (hN p hp)
  have N1 : News h₀ L s.heap nw := fun p hp => N p (in_nw p hp)
  wpAny_notIn_heap (knd := dKind PR w) hu ⟨K.to N1, keyD_ok n, keyD_depth n⟩ S.sm (S.fst.at_ N1 (N _ in_df).1) (by rw [e]; exact h _)
theorem notin_miss (e : atKey xs (keyD n) = none) (S : Sn w nw₀ nw mf rest dfa fa df o xf xs) (K : IsL nw (.ref a) (keyD n)) (N₀ : News h₀ L s.heap all) (hN : ∀ p ∈ mf ++ ((df, o) :: (rest ++ nw)), p ∈ all) (hu : A.in1.units + 16 < cLine) (h : ∀ tk, Q (.bool true) { s with toks := tk }) :
    wpAny (model PR w) A (compareOp .NotIn (.ref a) (.ref df)) Q E s :=
  have N : News h₀ L s.heap (mf ++ ((df, o) :: (rest ++ nw))) := fun p hp => N₀ p (hN p hp)
  have N1 : News h₀ L s.heap nw := fun p hp => N p (in_nw p hp)
  wpAny_notIn_heap (knd := dKind PR w) hu ⟨K.to N1, keyD_ok n, keyD_depth n⟩ S.sm (S.fst.at_ N1 (N _ in_df).1) (by rw [e]; exact h _)
theorem item_N {q : Addr} {r : Value} {value slice : PySem.Expr} (e : atKey xs (keyD n) = some (q, r)) (S : Sn w nw₀ nw mf rest dfa fa df o xf xs) (K : IsL nw (.ref a) (keyD n)) (N₀ : News h₀ L s.heap all) (hN : ∀ p ∈ mf ++ ((df, o) :: (rest ++ nw)), p ∈ all) (hu : A.in1.units + 16 < cLine) (h : ∀ tk, Q r { s with toks := tk })
    (hs : subscripted slice false (.ref df) (.ref a) = operate [.ref df, .ref a] (getItem (.ref df) (.ref a))) (hg : ∀ r, letTemporaryGo value (.ref df) r = pure ()) :
    wpAny (model PR w) A (subscriptTail value slice (.ref df) (.ref a)) Q E s :=
  have N : News h₀ L s.heap (mf ++ ((df, o) :: (rest ++ nw))) := fun p hp => N₀ p (hN p hp)
  have N1 : News h₀ L s.heap nw := fun p hp => N p (in_nw p hp)
  have H := S.fst.at_ N1 (N _ in_df).1
  subscriptTail_builtin H.typeIs slot_dict_getitem.lookup (wpAny_getItem_heap (knd := dKind PR w) hu ⟨K.to N1, keyD_ok n, keyD_depth n⟩ H e (h _)) hs hg
theorem set_N {v : Value} {Q : Unit → Shared → Prop} (e : atKey xs (keyD n) = none) (S : Sn w nw₀ nw mf rest dfa fa df o xf xs) (K : IsL nw (.ref a) (keyD n)) (F : Fr h₀ L s.heap m) (N₀ : News h₀ L s.heap all) (hN : ∀ p ∈ mf ++ ((df, o) :: (rest ++ nw)), p ∈ all) (hu : A.in1.units + 16 < cLine) (hl : xs.length ≤ 800)
    (h : ∀ h' o' tk, Fr h₀ L h' m → News h₀ L h' (mf ++ ((df, o') :: (rest ++ nw))) → Sn w nw₀ nw mf rest dfa fa df o' xf (xs ++ [(keyD n, a, v)]) → Q () { s with heap := h', toks := tk }) :
    wpAny (model PR w) A (setItem (.ref df) (.ref a) v) Q E s := by
  have N : News h₀ L s.heap (mf ++ ((df, o) :: (rest ++ nw))) := fun p hp => N₀ p (hN p hp)
  have N1 : News h₀ L s.heap ((df, o) :: (mf ++ (rest ++ nw))) := fun p hp => by
    rcases List.mem_cons.mp hp with rfl | hp
    · exact N _ in_df
    · rcases List.mem_append.mp hp with hp | hp
      · exact N p (in_mf p hp)
      · rcases List.mem_append.mp hp with hp | hp
        · exact N p (in_rest p hp)
        · exact N p (in_nw p hp)
  refine set_L F N1 (nk := nw) (fun p hp => List.mem_append_right _ (List.mem_append_right _ hp)) (fun p hp => ?_) S.fst K (keyD_ok n) (keyD_depth n) hu e (by omega) fun h' o' tk F' N' x' => ?_
  · rcases List.mem_append.mp hp with hp | hp
    · exact Ne.symm (S.ap _ (.head _) p hp)
    · rcases List.mem_append.mp hp with hp | hp
      · exact S.apd p hp
      · exact apart_bad N in_nw S.gd in_df (bad_dictL S.fst) p hp
  · refine h h' o' tk F' (news_f N' (fun p hp => .tail _ (List.mem_append_left _ hp)) (.head _) (fun p hp => .tail _ (List.mem_append_right _ (List.mem_append_left _ hp))) fun p hp => .tail _ (List.mem_append_right _ (List.mem_append_right _ hp)))
      { sub := S.sub, fac := S.fac, fst := x', gd := S.gd, inst := S.inst, apd := S.apd, sm := S.sm, lf := S.lf, refs := S.refs, len := S.len,
        lens := by rw [List.length_append, List.length_singleton]; omega
        ls := fun y hy => by
          rcases List.mem_append.mp hy with hy | hy
          · exact S.ls y hy
          · rw [List.mem_singleton.mp hy]; exact keyD_lok n
        ap := fun p hp q hq => by
          rcases List.mem_cons.mp hp with rfl | hp
          · exact S.ap (df, o) (.head _) q hq
          · exact S.ap p (.tail _ hp) q hq }
end
end Mine
namespace Mine
open Classical
open PyProof.Rows.LCg
def nBody : List Stmt := match lawB with
  | [_, _, _, _, _, .For _ _ [.For _ _ b _ _] _ _, _, _] => b
  | _ => []
section
variable {w : World} {p : Program} {loose : List Str} {mean : ExcName → Option Value} {mg mb : Str → Option Value} {dp un : Nat} {gd : Option (List Code)} {s : Shared} {h₀ : Heap} {L : Addr} {cd : Value} {nm : Str} {sc : Scope} {A₀ : Around} {m : Str → Option Value} {Q : Flow → Shared → Prop} {E : Value → Shared → Prop}
  {nw₀ nw mf rest : List (Addr × Obj)} {dfa fa df la : Addr} {o o7 : Obj} {zs : List Seen} {z : Seen} {n : Int} {t : Tok}
theorem method_N {A : Around} {Q : Value × List Value → Shared → Prop} {E : Value → Shared → Prop} {pl : Sem Bool} {xf xs : List (D × Addr × Value)} (S : Sn w nw₀ nw mf rest dfa fa df o xf xs) (F : Fr h₀ L s.heap m) (N : News h₀ L s.heap (mf ++ ((df, o) :: (rest ++ nw)))) (X : (hd.heap_1 w.params).In h₀)
    (h : Q (.ref 127, [.ref fa]) s) : wpAny (model PR w) A (getMethod (.ref fa) "persistent_load" pl) Q E s := by
  k_with_none
  (k_with "ktr_room" => ((first | k_dflt (exact lt_0 (by assumption) rfl) | k_dflt (exact lt_1 (by assumption) rfl) | ((simp only [depth_under_make, depth_under_kw, depth_in1, depth_deeper, depth_caller, recursionLimit] at *); omega))))
  (k_with "k_room" => ((first | k_dflt (exact lt_0 (by assumption) rfl) | k_dflt (exact lt_1 (by assumption) rfl) | ((simp only [depth_under_make, depth_under_kw, depth_in1, depth_deeper, depth_caller, recursionLimit] at *); omega))))
  (k_with "k_units" => ((first | k_dflt (exact lt_0 (by assumption) rfl) | k_dflt (exact lt_1 (by assumption) rfl) | k_dflt (exact lt_2 (by assumption) rfl) | k_dflt (exact lt_3 (by assumption) rfl) | ((have qhcL9 := cLine_is); (simp only [units_in1, units_deeper, Around.mark_units, units_caller, cLine] at *); omega))))
  (k_with "execs cons" => (((first | (with_reducible show wpAny _ _ _ _ _ (Shared.mk _ _ _ (_ + 1) _)) | (with_reducible show wpAny _ _ _ _ _ (Shared.mk _ _ _ (Shared.toks (Shared.mk _ _ _ _ _)) _))); refine tok_gen (fun tk => ?_))))
  (k_with "k_enter" => ((refine' code_defN ?h289hk2 ?h289hk3 ?h289hk4 ?h289hk5 ?h289hk6 ?h289hk7 ?h289hk8 ?h289hk9 ?h289hkB ?_ ?h289hc2 ?h289hc3 ?h289hc4 ?h289hc5; (case h289hk2 => k_asm); (case h289hk3 => k_asm); (case h289hk4 => k_asm); (case h289hk5 => k_asm); (case h289hk6 => k_is); (case h289hk7 => k_is); (case h289hk8 => k_room); (case h289hk9 => first | exact BindsTo.of_eq rfl | exact binds_K (by k_in) rfl (by k_is) rfl rfl rfl | fail "k_enter: no rule for these arguments"); (case h289hc5 => decide); (case h289hkB => exact locs rfl); (case h289hc2 => exact rfl); (case h289hc3 => exact rfl); (case h289hc4 => exact rfl); k_whole; intro qg' qL' qh' qFG' qF' qN' qX' qT'; (try dsimp only); (try k_fold))))
  have hi := in_nw (df := df) (o := o) (mf := mf) (rest := rest) _ S.inst
  have fc := S.fac
  cases fc with
  | fresh =>
    k_dflt (refine' method_inst ?k1 ?k2 ?k3 ?k4 ?k5 ?k6 ?k7 ?_; (case k1 => k_asm); (case k2 => k_asm); (case k3 => exact InstAt.of_news N hi (List.Mem.head _)); (case k4 => k_is); (case k5 => k_is); (case k6 => k_is); (case k7 => k_get); k_whole)
    exact h
  | busy d a b =>
    k_dflt (refine' method_inst ?k1 ?k2 ?k3 ?k4 ?k5 ?k6 ?k7 ?_; (case k1 => k_asm); (case k2 => k_asm); (case k3 => exact InstAt.of_news N hi (List.Mem.head _)); (case k4 => k_is); (case k5 => k_is); (case k6 => k_is); (case k7 => k_get); k_whole)
    exact h
theorem n_hit {b : List Stmt} (hb : b = nBody) (hsc : sc = lawSc) (B : Below A₀ h₀ [] h₀) (X : (hd.heap_1 w.params).In h₀) (T : Top p loose mean mg mb h₀) (hdp : dp < 600) (hun : un < 100)
    (S : Sn w nw₀ nw mf rest dfa fa df o (zs.map tkE) (zs.map kyE)) (hz : seen zs n = some z) (R : RefN nw n z.x) (hl : (zs.map tkE).length ≤ 800) (F : Fr h₀ L s.heap m) (N : News h₀ L s.heap (mf ++ ((df, o) :: (rest ++ nw))))
    (h7 : (L + 1 + 1 + 1 + 1 + 1 + 1 + 1, o7) ∈ rest) (d7 : o7.data = .cell (some (.ref df))) (hmf : m "factory" = some (.ref fa)) (hmn : m "number" = some (.int n t))
    (hQ : ∀ h' tk' m' mf' nw', Fr h₀ L h' m' → News h₀ L h' (mf' ++ ((df, o) :: (rest ++ nw'))) → Sn w nw₀ nw' mf' rest dfa fa df o (zs.map tkE) (zs.map kyE) → (∀ z : Str, z ≠ "value" → z ≠ "found" → z ≠ "key" → m' z = m z) → Q .next { s with heap := h', toks := tk' }) :
    wpAny (model PR w) (tA dp un gd (some [envOfC nm sc L la cd])) (execs b (envOfC nm sc L la cd)) Q E s := by
  k_with_none
  (k_with "ktr_room" => ((first | k_dflt (exact lt_0 (by assumption) rfl) | k_dflt (exact lt_1 (by assumption) rfl) | ((simp only [depth_under_make, depth_under_kw, depth_in1, depth_deeper, depth_caller, recursionLimit] at *); omega))))
  (k_with "k_room" => ((first | k_dflt (exact lt_0 (by assumption) rfl) | k_dflt (exact lt_1 (by assumption) rfl) | ((simp only [depth_under_make, depth_under_kw, depth_in1, depth_deeper, depth_caller, recursionLimit] at *); omega))))
  (k_with "k_units" => ((first | k_dflt (exact lt_0 (by assumption) rfl) | k_dflt (exact lt_1 (by assumption) rfl) | k_dflt (exact lt_2 (by assumption) rfl) | k_dflt (exact lt_3 (by assumption) rfl) | ((have qhcL9 := cLine_is); (simp only [units_in1, units_deeper, Around.mark_units, units_caller, cLine] at *); omega))))
  (k_with "execs cons" => (((first | (with_reducible show wpAny _ _ _ _ _ (Shared.mk _ _ _ (_ + 1) _)) | (with_reducible show wpAny _ _ _ _ _ (Shared.mk _ _ _ (Shared.toks (Shared.mk _ _ _ _ _)) _))); refine tok_gen (fun tk => ?_))))
  (k_with "k_enter" => ((refine' code_defN ?h289hk2 ?h289hk3 ?h289hk4 ?h289hk5 ?h289hk6 ?h289hk7 ?h289hk8 ?h289hk9 ?h289hkB ?_ ?h289hc2 ?h289hc3 ?h289hc4 ?h289hc5; (case h289hk2 => k_asm); (case h289hk3 => k_asm); (case h289hk4 => k_asm); (case h289hk5 => k_asm); (case h289hk6 => k_is); (case h289hk7 => k_is); (case h289hk8 => k_room); (case h289hk9 => first | exact BindsTo.of_eq rfl | exact binds_K (by k_in) rfl (by k_is) rfl rfl rfl | fail "k_enter: no rule for these arguments"); (case h289hc5 => decide); (case h289hkB => exact locs rfl); (case h289hc2 => exact rfl); (case h289hc3 => exact rfl); (case h289hc4 => exact rfl); k_whole; intro qg' qL' qh' qFG' qF' qN' qX' qT'; (try dsimp only); (try k_fold))))
  (k_with "k_mem" => (exact in_rest _ (by assumption)))
  (k_with "getMethod ref" => ((k_here; (with_reducible show wpAny _ _ (getMethod (Value.ref _) (PySem.Str.ofString "persistent_load") _) _ _ _); k_dflt (refine' method_N ?h291hS ?h291hF ?h291hN ?h291hX ?_; (case h291hS => assumption); (case h291hF => k_asm); (case h291hN => k_asm); (case h291hX => k_asm); k_whole))))
  (k_with "eval Name" => ((k_here; k_dflt (refine' nameX_L ?h292hF ?h292hv ?_ ?h292ha ?h292hb; (case h292hF => k_asm); (case h292ha => rfl); (case h292hb => rfl); (case h292hv => assumption); k_whole))))
  (k_with "call ref" => ((k_here; (with_reducible show wpAny _ _ (call (Value.ref 148) [Value.int _ _, Value.bool false]) _ _ _); k_dflt (refine' value_N ?h293hS ?h293hF ?h293hN ?h293hX ?h293hT ?h293hd ?h293hu ?_; (case h293hS => assumption); (case h293hF => k_asm); (case h293hN => k_asm); (case h293hX => k_asm); (case h293hT => k_asm); (case h293hd => (first | exact lt_0 (by assumption) rfl | exact lt_1 (by assumption) rfl | exact lt_2 (by assumption) rfl | exact lt_3 (by assumption) rfl | ((try dsimp only); omega))); (case h293hu => (first | exact lt_0 (by assumption) rfl | exact lt_1 (by assumption) rfl | exact lt_2 (by assumption) rfl | exact lt_3 (by assumption) rfl | ((try dsimp only); omega))); k_whole); intro qv' qnw' qh' qtk' qF' qN' qhs' qS' qV' qH'; (try k_sweep); (try have qR' := RefN.mono (by assumption) qhs'))))
  (k_with "call ref" => ((k_here; (with_reducible show wpAny _ _ (call (Value.ref 155) [Value.int _ _]) _ _ _); k_dflt (refine' key_N ?h294hS ?h294hF ?h294hN ?h294hX ?h294hT ?h294hd ?h294hu ?_; (case h294hS => assumption); (case h294hF => k_asm); (case h294hN => k_asm); (case h294hX => k_asm); (case h294hT => k_asm); (case h294hd => (first | exact lt_0 (by assumption) rfl | exact lt_1 (by assumption) rfl | exact lt_2 (by assumption) rfl | exact lt_3 (by assumption) rfl | ((try dsimp only); omega))); (case h294hu => (first | exact lt_0 (by assumption) rfl | exact lt_1 (by assumption) rfl | exact lt_2 (by assumption) rfl | exact lt_3 (by assumption) rfl | ((try dsimp only); omega))); k_whole); intro qa' qnw' qh' qtk' qF' qN' qhs' qS' qK'; (try k_sweep); (try have qR' := RefN.mono (by assumption) qhs'))))
  (k_with "call ref" => ((k_here; (with_reducible show wpAny _ _ (call (Value.ref 127) [_, _]) _ _ _); k_dflt (refine' load_hit ?h295hS ?h295he ?h295hB ?h295hF ?h295hN ?h295hX ?h295hT ?h295hhef ?h295hhck ?h295hd ?h295hu ?h295hl ?h295hv ?_; (case h295hS => assumption); (case h295he => assumption); (case h295hv => assumption); (case h295hB => assumption); (case h295hF => k_asm); (case h295hN => k_asm); (case h295hX => k_asm); (case h295hT => k_asm); (case h295hhef => exact rfl); (case h295hhck => exact rfl); (case h295hd => (first | exact lt_0 (by assumption) rfl | exact lt_1 (by assumption) rfl | exact lt_2 (by assumption) rfl | exact lt_3 (by assumption) rfl | ((try dsimp only); omega))); (case h295hu => (first | exact lt_0 (by assumption) rfl | exact lt_1 (by assumption) rfl | exact lt_2 (by assumption) rfl | exact lt_3 (by assumption) rfl | ((try dsimp only); omega))); (case h295hl => assumption); k_whole); intro qmf' qnw' qh' qtk' qF' qN' qhs' qS'; (try k_sweep); (try have qR' := RefN.mono (by assumption) qhs'))))
  (k_with "compareOp NotIn ref ref" => ((k_here; k_dflt (first | (refine' notin_hit ?h296he ?h296hS ?h296hK ?h296hN ?h296hh0 ?h296hu ?_; (case h296hS => assumption); (case h296he => assumption); (case h296hK => assumption); (case h296hN => k_asm); (case h296hh0 => first | exact fun p9 hp9 => hp9 | exact fun p9 hp9 => List.Mem.tail _ hp9 | exact fun p9 hp9 => List.Mem.tail _ (List.Mem.tail _ hp9)); (case h296hu => k_units); k_whole) | (refine' notin_miss ?h296he ?h296hS ?h296hK ?h296hN ?h296hh0 ?h296hu ?_; (case h296hS => assumption); (case h296he => assumption); (case h296hK => assumption); (case h296hN => k_asm); (case h296hh0 => first | exact fun p9 hp9 => hp9 | exact fun p9 hp9 => List.Mem.tail _ hp9 | exact fun p9 hp9 => List.Mem.tail _ (List.Mem.tail _ hp9)); (case h296hu => k_units); k_whole)); intro qtk')))
  (k_with "subscriptTail" => ((k_here; (with_reducible show wpAny _ _ (subscriptTail _ _ (Value.ref _) (Value.ref _)) _ _ _); k_dflt (refine' item_N ?h297he ?h297hS ?h297hK ?h297hN ?h297hh0 ?h297hu ?_ ?h297hhs ?h297hhg; (case h297hS => assumption); (case h297he => first | assumption | exact at_new (by assumption)); (case h297hK => assumption); (case h297hN => k_asm); (case h297hh0 => first | exact fun p9 hp9 => hp9 | exact fun p9 hp9 => List.Mem.tail _ hp9 | exact fun p9 hp9 => List.Mem.tail _ (List.Mem.tail _ hp9)); (case h297hu => k_units); (case h297hhs => with_unfolding_all rfl); (case h297hhg => (intro _; with_unfolding_all rfl)); k_whole); intro qtk')))
  (k_with "call ref" => ((k_here; (with_reducible show wpAny _ _ (call (Value.ref 176) [_, _]) _ _ _); k_dflt (refine' tells_K ?h298hF ?h298hN ?h298hX ?h298hT ?h298hd ?h298hu ?h298hR ?_; (case h298hF => k_asm); (case h298hN => k_asm); (case h298hR => first | exact RefN.mono (by assumption) in_nw | exact RefN.mono (by assumption) (fun p9 hp9 => List.Mem.tail _ (in_nw p9 hp9))); (case h298hX => k_asm); (case h298hT => k_asm); (case h298hd => (first | exact lt_0 (by assumption) rfl | exact lt_1 (by assumption) rfl | exact lt_2 (by assumption) rfl | exact lt_3 (by assumption) rfl | ((try dsimp only); omega))); (case h298hu => (first | exact lt_0 (by assumption) rfl | exact lt_1 (by assumption) rfl | exact lt_2 (by assumption) rfl | exact lt_3 (by assumption) rfl | ((try dsimp only); omega))); k_whole); intro qh' qtk' qF' qN'; (try k_sweep))))
  (k_with "call ref" => ((k_here; (with_reducible show wpAny _ _ (call (Value.ref 190) [_, _]) _ _ _); k_dflt (refine' known_K ?h299hF ?h299hN ?h299hX ?h299hT ?h299hd ?h299hu ?h299hR ?_; (case h299hF => k_asm); (case h299hN => k_asm); (case h299hR => first | exact RefN.mono (by assumption) in_nw | exact RefN.mono (by assumption) (fun p9 hp9 => List.Mem.tail _ (in_nw p9 hp9))); (case h299hX => k_asm); (case h299hT => k_asm); (case h299hd => (first | exact lt_0 (by assumption) rfl | exact lt_1 (by assumption) rfl | exact lt_2 (by assumption) rfl | exact lt_3 (by assumption) rfl | ((try dsimp only); omega))); (case h299hu => (first | exact lt_0 (by assumption) rfl | exact lt_1 (by assumption) rfl | exact lt_2 (by assumption) rfl | exact lt_3 (by assumption) rfl | ((try dsimp only); omega))); k_whole); intro qh' qtk' qF' qN'; (try k_sweep))))
  conv at hb => rhs; whnf
  conv at hsc => rhs; whnf
  subst hb hsc
  have e1 : atKey (zs.map tkE) (tkD n) = some (z.a1, .ref z.x) := by rw [at_tk, hz]; rfl
  have e2 : atKey (zs.map kyE) (keyD n) = some (z.a2, .ref z.x) := by rw [at_ky, hz]; rfl
  k_steps
  (with_reducible rename Fr _ _ _ _ => F9); (with_reducible rename News _ _ _ _ => N9); (with_reducible rename Sn _ _ _ _ _ _ _ _ _ _ _ => S9)
  exact hQ _ _ _ _ _ F9 (fun p hp => N9 p (.tail _ hp)) S9 fun z h1 h2 h3 => by rw [if_neg h2, if_neg h3, if_neg h1]
theorem n_miss {b : List Stmt} (hb : b = nBody) (hsc : sc = lawSc) (B : Below A₀ h₀ [] h₀) (X : (hd.heap_1 w.params).In h₀) (T : Top p loose mean mg mb h₀) (hdp : dp < 600) (hun : un < 100)
    (S : Sn w nw₀ nw mf rest dfa fa df o (zs.map tkE) (zs.map kyE)) (hz : seen zs n = none) (hl : (zs.map tkE).length ≤ 800) (hl2 : (zs.map kyE).length ≤ 800) (F : Fr h₀ L s.heap m) (N : News h₀ L s.heap (mf ++ ((df, o) :: (rest ++ nw))))
    (h7 : (L + 1 + 1 + 1 + 1 + 1 + 1 + 1, o7) ∈ rest) (d7 : o7.data = .cell (some (.ref df))) (hmf : m "factory" = some (.ref fa)) (hmn : m "number" = some (.int n t))
    (hQ : ∀ h' tk' m' mf' nw' o' x a1 a2, Fr h₀ L h' m' → News h₀ L h' (mf' ++ ((df, o') :: (rest ++ nw'))) → Sn w nw₀ nw' mf' rest dfa fa df o' (zs.map tkE ++ [(tkD n, a1, .ref x)]) (zs.map kyE ++ [(keyD n, a2, .ref x)]) → RefN nw' n x → (∀ p ∈ nw₀, p.1 ≠ x) → (∀ z : Str, z ≠ "value" → z ≠ "found" → z ≠ "key" → m' z = m z) → Q .next { s with heap := h', toks := tk' }) :
    wpAny (model PR w) (tA dp un gd (some [envOfC nm sc L la cd])) (execs b (envOfC nm sc L la cd)) Q E s := by
  k_with_none
  (k_with "ktr_room" => ((first | k_dflt (exact lt_0 (by assumption) rfl) | k_dflt (exact lt_1 (by assumption) rfl) | ((simp only [depth_under_make, depth_under_kw, depth_in1, depth_deeper, depth_caller, recursionLimit] at *); omega))))
  (k_with "k_room" => ((first | k_dflt (exact lt_0 (by assumption) rfl) | k_dflt (exact lt_1 (by assumption) rfl) | ((simp only [depth_under_make, depth_under_kw, depth_in1, depth_deeper, depth_caller, recursionLimit] at *); omega))))
  (k_with "k_units" => ((first | k_dflt (exact lt_0 (by assumption) rfl) | k_dflt (exact lt_1 (by assumption) rfl) | k_dflt (exact lt_2 (by assumption) rfl) | k_dflt (exact lt_3 (by assumption) rfl) | ((have qhcL9 := cLine_is); (simp only [units_in1, units_deeper, Around.mark_units, units_caller, cLine] at *); omega))))
  (k_with "execs cons" => (((first | (with_reducible show wpAny _ _ _ _ _ (Shared.mk _ _ _ (_ + 1) _)) | (with_reducible show wpAny _ _ _ _ _ (Shared.mk _ _ _ (Shared.toks (Shared.mk _ _ _ _ _)) _))); refine tok_gen (fun tk => ?_))))
  (k_with "k_enter" => ((refine' code_defN ?h289hk2 ?h289hk3 ?h289hk4 ?h289hk5 ?h289hk6 ?h289hk7 ?h289hk8 ?h289hk9 ?h289hkB ?_ ?h289hc2 ?h289hc3 ?h289hc4 ?h289hc5; (case h289hk2 => k_asm); (case h289hk3 => k_asm); (case h289hk4 => k_asm); (case h289hk5 => k_asm); (case h289hk6 => k_is); (case h289hk7 => k_is); (case h289hk8 => k_room); (case h289hk9 => first | exact BindsTo.of_eq rfl | exact binds_K (by k_in) rfl (by k_is) rfl rfl rfl | fail "k_enter: no rule for these arguments"); (case h289hc5 => decide); (case h289hkB => exact locs rfl); (case h289hc2 => exact rfl); (case h289hc3 => exact rfl); (case h289hc4 => exact rfl); k_whole; intro qg' qL' qh' qFG' qF' qN' qX' qT'; (try dsimp only); (try k_fold))))
  (k_with "k_mem" => (exact in_rest _ (by assumption)))
  (k_with "getMethod ref" => ((k_here; (with_reducible show wpAny _ _ (getMethod (Value.ref _) (PySem.Str.ofString "persistent_load") _) _ _ _); k_dflt (refine' method_N ?h291hS ?h291hF ?h291hN ?h291hX ?_; (case h291hS => assumption); (case h291hF => k_asm); (case h291hN => k_asm); (case h291hX => k_asm); k_whole))))
  (k_with "eval Name" => ((k_here; k_dflt (refine' nameX_L ?h292hF ?h292hv ?_ ?h292ha ?h292hb; (case h292hF => k_asm); (case h292ha => rfl); (case h292hb => rfl); (case h292hv => assumption); k_whole))))
  (k_with "call ref" => ((k_here; (with_reducible show wpAny _ _ (call (Value.ref 148) [Value.int _ _, Value.bool false]) _ _ _); k_dflt (refine' value_N ?h293hS ?h293hF ?h293hN ?h293hX ?h293hT ?h293hd ?h293hu ?_; (case h293hS => assumption); (case h293hF => k_asm); (case h293hN => k_asm); (case h293hX => k_asm); (case h293hT => k_asm); (case h293hd => (first | exact lt_0 (by assumption) rfl | exact lt_1 (by assumption) rfl | exact lt_2 (by assumption) rfl | exact lt_3 (by assumption) rfl | ((try dsimp only); omega))); (case h293hu => (first | exact lt_0 (by assumption) rfl | exact lt_1 (by assumption) rfl | exact lt_2 (by assumption) rfl | exact lt_3 (by assumption) rfl | ((try dsimp only); omega))); k_whole); intro qv' qnw' qh' qtk' qF' qN' qhs' qS' qV' qH'; (try k_sweep); (try have qR' := RefN.mono (by assumption) qhs'))))
  (k_with "call ref" => ((k_here; (with_reducible show wpAny _ _ (call (Value.ref 155) [Value.int _ _]) _ _ _); k_dflt (refine' key_N ?h294hS ?h294hF ?h294hN ?h294hX ?h294hT ?h294hd ?h294hu ?_; (case h294hS => assumption); (case h294hF => k_asm); (case h294hN => k_asm); (case h294hX => k_asm); (case h294hT => k_asm); (case h294hd => (first | exact lt_0 (by assumption) rfl | exact lt_1 (by assumption) rfl | exact lt_2 (by assumption) rfl | exact lt_3 (by assumption) rfl | ((try dsimp only); omega))); (case h294hu => (first | exact lt_0 (by assumption) rfl | exact lt_1 (by assumption) rfl | exact lt_2 (by assumption) rfl | exact lt_3 (by assumption) rfl | ((try dsimp only); omega))); k_whole); intro qa' qnw' qh' qtk' qF' qN' qhs' qS' qK'; (try k_sweep); (try have qR' := RefN.mono (by assumption) qhs'))))
  (k_with "call ref" => ((k_here; (with_reducible show wpAny _ _ (call (Value.ref 127) [_, _]) _ _ _); k_dflt (refine' load_hit ?h295hS ?h295he ?h295hB ?h295hF ?h295hN ?h295hX ?h295hT ?h295hhef ?h295hhck ?h295hd ?h295hu ?h295hl ?h295hv ?_; (case h295hS => assumption); (case h295he => assumption); (case h295hv => assumption); (case h295hB => assumption); (case h295hF => k_asm); (case h295hN => k_asm); (case h295hX => k_asm); (case h295hT => k_asm); (case h295hhef => exact rfl); (case h295hhck => exact rfl); (case h295hd => (first | exact lt_0 (by assumption) rfl | exact lt_1 (by assumption) rfl | exact lt_2 (by assumption) rfl | exact lt_3 (by assumption) rfl | ((try dsimp only); omega))); (case h295hu => (first | exact lt_0 (by assumption) rfl | exact lt_1 (by assumption) rfl | exact lt_2 (by assumption) rfl | exact lt_3 (by assumption) rfl | ((try dsimp only); omega))); (case h295hl => assumption); k_whole); intro qmf' qnw' qh' qtk' qF' qN' qhs' qS'; (try k_sweep); (try have qR' := RefN.mono (by assumption) qhs'))))
  (k_with "compareOp NotIn ref ref" => ((k_here; k_dflt (first | (refine' notin_hit ?h296he ?h296hS ?h296hK ?h296hN ?h296hh0 ?h296hu ?_; (case h296hS => assumption); (case h296he => assumption); (case h296hK => assumption); (case h296hN => k_asm); (case h296hh0 => first | exact fun p9 hp9 => hp9 | exact fun p9 hp9 => List.Mem.tail _ hp9 | exact fun p9 hp9 => List.Mem.tail _ (List.Mem.tail _ hp9)); (case h296hu => k_units); k_whole) | (refine' notin_miss ?h296he ?h296hS ?h296hK ?h296hN ?h296hh0 ?h296hu ?_; (case h296hS => assumption); (case h296he => assumption); (case h296hK => assumption); (case h296hN => k_asm); (case h296hh0 => first | exact fun p9 hp9 => hp9 | exact fun p9 hp9 => List.Mem.tail _ hp9 | exact fun p9 hp9 => List.Mem.tail _ (List.Mem.tail _ hp9)); (case h296hu => k_units); k_whole)); intro qtk')))
  (k_with "subscriptTail" => ((k_here; (with_reducible show wpAny _ _ (subscriptTail _ _ (Value.ref _) (Value.ref _)) _ _ _); k_dflt (refine' item_N ?h297he ?h297hS ?h297hK ?h297hN ?h297hh0 ?h297hu ?_ ?h297hhs ?h297hhg; (case h297hS => assumption); (case h297he => first | assumption | exact at_new (by assumption)); (case h297hK => assumption); (case h297hN => k_asm); (case h297hh0 => first | exact fun p9 hp9 => hp9 | exact fun p9 hp9 => List.Mem.tail _ hp9 | exact fun p9 hp9 => List.Mem.tail _ (List.Mem.tail _ hp9)); (case h297hu => k_units); (case h297hhs => with_unfolding_all rfl); (case h297hhg => (intro _; with_unfolding_all rfl)); k_whole); intro qtk')))
  (k_with "call ref" => ((k_here; (with_reducible show wpAny _ _ (call (Value.ref 176) [_, _]) _ _ _); k_dflt (refine' tells_K ?h298hF ?h298hN ?h298hX ?h298hT ?h298hd ?h298hu ?h298hR ?_; (case h298hF => k_asm); (case h298hN => k_asm); (case h298hR => first | exact RefN.mono (by assumption) in_nw | exact RefN.mono (by assumption) (fun p9 hp9 => List.Mem.tail _ (in_nw p9 hp9))); (case h298hX => k_asm); (case h298hT => k_asm); (case h298hd => (first | exact lt_0 (by assumption) rfl | exact lt_1 (by assumption) rfl | exact lt_2 (by assumption) rfl | exact lt_3 (by assumption) rfl | ((try dsimp only); omega))); (case h298hu => (first | exact lt_0 (by assumption) rfl | exact lt_1 (by assumption) rfl | exact lt_2 (by assumption) rfl | exact lt_3 (by assumption) rfl | ((try dsimp only); omega))); k_whole); intro qh' qtk' qF' qN'; (try k_sweep))))
  (k_with "call ref" => ((k_here; (with_reducible show wpAny _ _ (call (Value.ref 190) [_, _]) _ _ _); k_dflt (refine' known_K ?h299hF ?h299hN ?h299hX ?h299hT ?h299hd ?h299hu ?h299hR ?_; (case h299hF => k_asm); (case h299hN => k_asm); (case h299hR => first | exact RefN.mono (by assumption) in_nw | exact RefN.mono (by assumption) (fun p9 hp9 => List.Mem.tail _ (in_nw p9 hp9))); (case h299hX => k_asm); (case h299hT => k_asm); (case h299hd => (first | exact lt_0 (by assumption) rfl | exact lt_1 (by assumption) rfl | exact lt_2 (by assumption) rfl | exact lt_3 (by assumption) rfl | ((try dsimp only); omega))); (case h299hu => (first | exact lt_0 (by assumption) rfl | exact lt_1 (by assumption) rfl | exact lt_2 (by assumption) rfl | exact lt_3 (by assumption) rfl | ((try dsimp only); omega))); k_whole); intro qh' qtk' qF' qN'; (try k_sweep))))
  (k_with "call ref" => ((k_here; (with_reducible show wpAny _ _ (call (Value.ref 127) [_, _]) _ _ _); k_dflt (refine' load_miss ?h300hS ?h300he ?h300hB ?h300hF ?h300hN ?h300hX ?h300hT ?h300hhef ?h300hhck ?h300hd ?h300hu ?h300hl ?h300hv ?_; (case h300hS => assumption); (case h300he => assumption); (case h300hv => assumption); (case h300hB => assumption); (case h300hF => k_asm); (case h300hN => k_asm); (case h300hX => k_asm); (case h300hT => k_asm); (case h300hhef => exact rfl); (case h300hhck => exact rfl); (case h300hd => (first | exact lt_0 (by assumption) rfl | exact lt_1 (by assumption) rfl | exact lt_2 (by assumption) rfl | exact lt_3 (by assumption) rfl | ((try dsimp only); omega))); (case h300hu => (first | exact lt_0 (by assumption) rfl | exact lt_1 (by assumption) rfl | exact lt_2 (by assumption) rfl | exact lt_3 (by assumption) rfl | ((try dsimp only); omega))); (case h300hl => assumption); k_whole); intro qx' qa' qmf' qnw' qh' qtk' qF' qN' qhs' qS' qR' qhx'; (try k_sweep))))
  (k_with "setItem ref ref" => ((k_here; k_dflt (refine' set_N ?h301he ?h301hS ?h301hK ?h301hF ?h301hN ?h301hh0 ?h301hu ?h301hl ?_; (case h301hS => assumption); (case h301he => assumption); (case h301hK => assumption); (case h301hF => k_asm); (case h301hN => k_asm); (case h301hh0 => first | exact fun p9 hp9 => hp9 | exact fun p9 hp9 => List.Mem.tail _ hp9 | exact fun p9 hp9 => List.Mem.tail _ (List.Mem.tail _ hp9)); (case h301hu => k_units); (case h301hl => assumption); k_whole); intro qh' qo' qtk' qF' qN' qS'; (try k_sweep))))
  conv at hb => rhs; whnf
  conv at hsc => rhs; whnf
  subst hb hsc
  have e1 : atKey (zs.map tkE) (tkD n) = none := by rw [at_tk, hz]; rfl
  have e2 : atKey (zs.map kyE) (keyD n) = none := by rw [at_ky, hz]; rfl
  k_steps
  (with_reducible rename Fr _ _ _ _ => F9); (with_reducible rename News _ _ _ _ => N9); (with_reducible rename Sn _ _ _ _ _ _ _ _ _ _ _ => S9); (with_reducible rename RefN _ _ _ => R9)
  exact hQ _ _ _ _ _ _ _ _ _ F9 N9 S9 R9 (by assumption) fun z h1 h2 h3 => by rw [if_neg h2, if_neg h3, if_neg h1]
end
end Mine
namespace Mine
open Classical
open PyProof.Rows.LCg
def Zs (nw : List (Addr × Obj)) (zs : List Seen) : Prop := (∀ z ∈ zs, RefN nw z.n z.x) ∧ (zs.map (·.x)).Nodup
theorem Zs.mono {nw nw' : List (Addr × Obj)} {zs : List Seen} (h : Zs nw zs) (hs : ∀ p ∈ nw, p ∈ nw') : Zs nw' zs := ⟨fun z hz => (h.1 z hz).mono hs, h.2⟩
theorem Zs.snoc {nw nw' : List (Addr × Obj)} {zs : List Seen} {z : Seen} (h : Zs nw zs) (hs : ∀ p ∈ nw, p ∈ nw') (R : RefN nw' z.n z.x) (hx : ∀ p ∈ nw, p.1 ≠ z.x) : Zs nw' (zs ++ [z]) := by
  refine ⟨fun y hy => ?_, ?_⟩
  · rcases List.mem_append.mp hy with hy | hy
    · exact (h.1 y hy).mono hs
    · rw [List.mem_singleton.mp hy]; exact R
  · rw [List.map_append, List.nodup_append]
    refine ⟨h.2, by simp, fun a ha b hb => ?_⟩
    simp only [List.map_cons, List.map_nil, List.mem_singleton] at hb
    obtain ⟨y, hy, rfl⟩ := List.mem_map.mp ha
    rw [hb]
    obtain ⟨dx, es, k, t, hm, _⟩ := h.1 y hy
    exact hx _ hm
theorem seen_some {zs : List Seen} {n : Int} {z : Seen} (h : seen zs n = some z) : z ∈ zs ∧ keyD z.n = keyD n := by
  unfold seen at h
  refine ⟨List.mem_of_find?_eq_some h, ?_⟩
  have := List.find?_some h
  simpa using this
section
variable {w : World} {p : Program} {loose : List Str} {mean : ExcName → Option Value} {mg mb : Str → Option Value} {dp un : Nat} {gd : Option (List Code)} {s : Shared} {h₀ : Heap} {L : Addr} {cd : Value} {nm : Str} {sc : Scope} {A₀ : Around} {m : Str → Option Value} {Q : Flow → Shared → Prop} {E : Value → Shared → Prop}
  {nw₀ nw mf rest : List (Addr × Obj)} {dfa fa df la I : Addr} {o o7 oI : Obj} {zs : List Seen} {z : Seen} {n : Int} {t : Tok} {xf xs : List (D × Addr × Value)}
theorem Sn.push (S : Sn w nw₀ nw mf rest dfa fa df o xf xs) (h : ∀ p ∈ mf ++ ((df, o) :: rest), p.1 ≠ I) : Sn w nw₀ nw mf ((I, oI) :: rest) dfa fa df o xf xs :=
  { S with
    ap := fun p hp q hq => by
      rcases List.mem_cons.mp hp with rfl | hp
      · exact S.ap _ (.head _) q hq
      · rcases List.mem_cons.mp hp with rfl | hp
        · exact Ne.symm (h q (List.mem_append_left _ hq))
        · exact S.ap p (.tail _ hp) q hq
    apd := fun p hp => by
      rcases List.mem_cons.mp hp with rfl | hp
      · exact Ne.symm (h (df, o) (List.mem_append_right _ (.head _)))
      · exact S.apd p hp }
theorem Sn.pop (S : Sn w nw₀ nw mf ((I, oI) :: rest) dfa fa df o xf xs) : Sn w nw₀ nw mf rest dfa fa df o xf xs :=
  { S with
    ap := fun p hp q hq => by
      rcases List.mem_cons.mp hp with rfl | hp
      · exact S.ap _ (.head _) q hq
      · exact S.ap p (.tail _ (.tail _ hp)) q hq
    apd := fun p hp => S.apd p (.tail _ hp) }
theorem Sn.off (S : Sn w nw₀ nw mf ((I, oI) :: rest) dfa fa df o xf xs) (h : ∀ p ∈ rest, p.1 ≠ I) : ∀ p ∈ mf ++ ((df, o) :: rest), p.1 ≠ I := fun p hp => by
  rcases List.mem_append.mp hp with hp | hp
  · exact Ne.symm (S.ap (I, oI) (.tail _ (.head _)) p hp)
  · rcases List.mem_cons.mp hp with rfl | hp
    · exact Ne.symm (S.apd (I, oI) (.head _))
    · exact h p hp
theorem Sn.base (S : Sn w nw₀ nw mf rest dfa fa df o xf xs) : Sn w nw nw mf rest dfa fa df o xf xs := { S with sub := fun _ hp => hp }
theorem Sn.of {nw₁ : List (Addr × Obj)} (S : Sn w nw₁ nw mf rest dfa fa df o xf xs) (hs : ∀ p ∈ nw₀, p ∈ nw₁) : Sn w nw₀ nw mf rest dfa fa df o xf xs := { S with sub := fun p hp => S.sub p (hs p hp) }
theorem news_in {h : Heap} (N : News h₀ L h ((I, oI) :: ((mf ++ ((df, o) :: rest)) ++ nw))) : News h₀ L h (mf ++ ((df, o) :: (((I, oI) :: rest) ++ nw))) := fun p hp => N p (by
  simp only [List.mem_append, List.mem_cons] at hp ⊢
  rcases hp with hp | hp | (hp | hp) | hp
  · exact .inr (.inl (.inl hp))
  · exact .inr (.inl (.inr (.inl hp)))
  · exact .inl hp
  · exact .inr (.inl (.inr (.inr hp)))
  · exact .inr (.inr hp))
theorem news_out {h : Heap} (N : News h₀ L h (mf ++ ((df, o) :: (((I, oI) :: rest) ++ nw)))) : News h₀ L h ((I, oI) :: ((mf ++ ((df, o) :: rest)) ++ nw)) := fun p hp => N p (by
  simp only [List.mem_append, List.mem_cons] at hp ⊢
  rcases hp with hp | (hp | hp | hp) | hp
  · exact .inr (.inr (.inl (.inl hp)))
  · exact .inl hp
  · exact .inr (.inl hp)
  · exact .inr (.inr (.inl (.inr hp)))
  · exact .inr (.inr (.inr hp)))
theorem n_turn {b : List Stmt} (hb : b = nBody) (hsc : sc = lawSc) (B : Below A₀ h₀ [] h₀) (X : (hd.heap_1 w.params).In h₀) (T : Top p loose mean mg mb h₀) (hdp : dp < 600) (hun : un < 100)
    (S : Sn w nw nw mf rest dfa fa df o (zs.map tkE) (zs.map kyE)) (hz : Zs nw zs) (hl : zs.length ≤ 800) (F : Fr h₀ L s.heap m) (N : News h₀ L s.heap (mf ++ ((df, o) :: (rest ++ nw))))
    (h7 : (L + 1 + 1 + 1 + 1 + 1 + 1 + 1, o7) ∈ rest) (d7 : o7.data = .cell (some (.ref df))) (hmf : m "factory" = some (.ref fa)) (hmn : m "number" = some (.int n t))
    (hQ : ∀ h' tk' m' mf' nw' o' zs', Fr h₀ L h' m' → News h₀ L h' (mf' ++ ((df, o') :: (rest ++ nw'))) → Sn w nw nw' mf' rest dfa fa df o' (zs'.map tkE) (zs'.map kyE) → Zs nw' zs' → zs'.length ≤ zs.length + 1 → (∀ z : Str, z ≠ "value" → z ≠ "found" → z ≠ "key" → m' z = m z) → Q .next { s with heap := h', toks := tk' }) :
    wpAny (model PR w) (tA dp un gd (some [envOfC nm sc L la cd])) (execs b (envOfC nm sc L la cd)) Q E s := by
  have l1 : (zs.map tkE).length ≤ 800 := by rw [List.length_map]; exact hl
  have l2 : (zs.map kyE).length ≤ 800 := by rw [List.length_map]; exact hl
  cases q : seen zs n with
  | some z =>
    obtain ⟨h1, h2⟩ := seen_some q
    exact n_hit hb hsc B X T hdp hun S q ((hz.1 z h1).same h2) l1 F N h7 d7 hmf hmn fun h' tk' m' mf' nw' F' N' S' hm' => hQ h' tk' m' mf' nw' o zs F' N' S' (hz.mono S'.sub) (by omega) hm'
  | none =>
    refine n_miss hb hsc B X T hdp hun S q l1 l2 F N h7 d7 hmf hmn fun h' tk' m' mf' nw' o' x a1 a2 F' N' S' R hx hm' => ?_
    have e1 : zs.map tkE ++ [(tkD n, a1, .ref x)] = (zs ++ [(⟨n, a1, a2, x⟩ : Seen)]).map tkE := by simp [tkE]
    have e2 : zs.map kyE ++ [(keyD n, a2, .ref x)] = (zs ++ [(⟨n, a1, a2, x⟩ : Seen)]).map kyE := by simp [kyE]
    rw [e1, e2] at S'
    exact hQ h' tk' m' mf' nw' o' (zs ++ [⟨n, a1, a2, x⟩]) F' N' S' (hz.snoc S'.sub R hx) (by simp) hm'
/-- what the second half's loops keep -/
def JN (w : World) (nw₀ rest : List (Addr × Obj)) (dfa fa df : Addr) (ln : Addr) (c : Nat → Nat) (i : Nat) (m' : Str → Option Value) (mt nw' : List (Addr × Obj)) : Prop :=
  ∃ mf o zs, mt = mf ++ ((df, o) :: rest) ∧ Sn w nw₀ nw' mf rest dfa fa df o (zs.map tkE) (zs.map kyE) ∧ Zs nw' zs ∧ zs.length ≤ c i ∧ m' "factory" = some (.ref fa) ∧ m' "numbers" = some (.ref ln)
def nLoop : List Stmt := match lawB with
  | [_, _, _, _, _, .For _ _ b _ _, _, _] => b
  | _ => []
def st5 : List Stmt := match lawB with
  | [_, _, _, _, _, a, _, _] => [a]
  | _ => []
theorem num_loop {b : List Stmt} {vs : List Value} {ns : List Int} {ln : Addr} {k : Nat} (hb : b = nLoop) (hsc : sc = lawSc) (B : Below A₀ h₀ [] h₀) (X : (hd.heap_1 w.params).In h₀) (T : Top p loose mean mg mb h₀) (hdp : dp < 600) (hun : un < 100) (hI : IntsAre vs ns) (hlen : vs.length ≤ 5)
    (S : Sn w nw nw mf rest dfa fa df o (zs.map tkE) (zs.map kyE)) (hz : Zs nw zs) (hl : zs.length ≤ 700) (F : Fr h₀ L s.heap m) (N : News h₀ L s.heap ((mf ++ ((df, o) :: rest)) ++ nw))
    (h7 : (L + 1 + 1 + 1 + 1 + 1 + 1 + 1, o7) ∈ rest) (d7 : o7.data = .cell (some (.ref df))) (hln : (ln, listOf vs.toArray k) ∈ rest) (hmf : m "factory" = some (.ref fa)) (hmn : m "numbers" = some (.ref ln))
    (hQ : ∀ h' tk' m' mf' nw' o' zs', Fr h₀ L h' m' → News h₀ L h' ((mf' ++ ((df, o') :: rest)) ++ nw') → Sn w nw nw' mf' rest dfa fa df o' (zs'.map tkE) (zs'.map kyE) → Zs nw' zs' → zs'.length ≤ zs.length + 5 → m' "factory" = some (.ref fa) → m' "numbers" = some (.ref ln) → Q .next { s with heap := h', toks := tk' }) :
    wpAny (model PR w) (tA dp un gd (some [envOfC nm sc L la cd])) (execs b (envOfC nm sc L la cd)) Q E s := by
  k_with_none
  (k_with "ktr_room" => ((first | k_dflt (exact lt_0 (by assumption) rfl) | k_dflt (exact lt_1 (by assumption) rfl) | ((simp only [depth_under_make, depth_under_kw, depth_in1, depth_deeper, depth_caller, recursionLimit] at *); omega))))
  (k_with "k_room" => ((first | k_dflt (exact lt_0 (by assumption) rfl) | k_dflt (exact lt_1 (by assumption) rfl) | ((simp only [depth_under_make, depth_under_kw, depth_in1, depth_deeper, depth_caller, recursionLimit] at *); omega))))
  (k_with "k_units" => ((first | k_dflt (exact lt_0 (by assumption) rfl) | k_dflt (exact lt_1 (by assumption) rfl) | k_dflt (exact lt_2 (by assumption) rfl) | k_dflt (exact lt_3 (by assumption) rfl) | ((have qhcL9 := cLine_is); (simp only [units_in1, units_deeper, Around.mark_units, units_caller, cLine] at *); omega))))
  (k_with "execs cons" => (((first | (with_reducible show wpAny _ _ _ _ _ (Shared.mk _ _ _ (_ + 1) _)) | (with_reducible show wpAny _ _ _ _ _ (Shared.mk _ _ _ (Shared.toks (Shared.mk _ _ _ _ _)) _))); refine tok_gen (fun tk => ?_))))
  (k_with "k_enter" => ((refine' code_defN ?h306hk2 ?h306hk3 ?h306hk4 ?h306hk5 ?h306hk6 ?h306hk7 ?h306hk8 ?h306hk9 ?h306hkB ?_ ?h306hc2 ?h306hc3 ?h306hc4 ?h306hc5; (case h306hk2 => k_asm); (case h306hk3 => k_asm); (case h306hk4 => k_asm); (case h306hk5 => k_asm); (case h306hk6 => k_is); (case h306hk7 => k_is); (case h306hk8 => k_room); (case h306hk9 => first | exact BindsTo.of_eq rfl | exact binds_K (by k_in) rfl (by k_is) rfl rfl rfl | fail "k_enter: no rule for these arguments"); (case h306hc5 => decide); (case h306hkB => exact locs rfl); (case h306hc2 => exact rfl); (case h306hc3 => exact rfl); (case h306hc4 => exact rfl); k_whole; intro qg' qL' qh' qFG' qF' qN' qX' qT'; (try dsimp only); (try k_fold))))
  (k_with "eval Name" => ((k_here; k_dflt (refine' nameX_L ?h307hF ?h307hv ?_ ?h307ha ?h307hb; (case h307hF => k_asm); (case h307ha => rfl); (case h307hb => rfl); (case h307hv => assumption); k_whole))))
  (k_with "exec For" => ((k_here; k_dflt (refine' for_F ?h308hF ?_ ?h308ht; (case h308hF => k_asm); (case h308ht => (intro _ _; rfl))))))
  (k_with "call type:range" => ((k_here; k_dflt (refine' range1_rows ?h309hF ?h309hN ?_; (case h309hF => k_asm); (case h309hN => k_asm); k_whole); intro qh' qk' qt' qu' qv' qR' qF' qN' qkp')))
  conv at hb => rhs; whnf
  conv at hsc => rhs; whnf
  subst hb hsc
  k_steps
  refine ⟨vs.length, _, _, m, mf ++ ((df, o) :: rest), nw, JN w nw rest dfa fa df ln (fun i => zs.length + i), SrcOk.list (vs := vs) (k := k), rfl, F, N, S.gd, ⟨mf, o, zs, rfl, S, hz, by simp, hmf, hmn⟩, ?_, ?_, ?_⟩
  · rintro i m' mt' nw' ⟨mf', o', zs', rfl, _⟩ p hp
    rw [List.mem_singleton.mp hp]
    exact List.mem_append_right _ (.tail _ hln)
  · rintro i v m₁ mt nw₁ I oI h tk E' hi hP ⟨mf', o', zs', rfl, S', hz', hl', hmf', hmn'⟩ G' hfI F' N' hoff
    obtain ⟨n, t, rfl, _⟩ := hI.at i v hP
    have hl' : zs'.length ≤ zs.length + i := hl'
    refine wpAny_assign_Name ?_
    refine storeX_L F' N' (fun h' F₂ N₂ => ?_) rfl rfl
    refine n_turn rfl rfl B X T hdp hun (S'.push hoff).base hz' (by omega) F₂ (news_in N₂) (.tail _ h7) d7 hmf' rfl fun h₃ tk₃ m₃ mf₃ nw₃ o₃ zs₃ F₃ N₃ S₃ hz₃ hl₃ hm₃ => ?_
    exact ⟨.inl rfl, h₃, tk₃, m₃, mf₃ ++ ((df, o₃) :: rest), nw₃, rfl, F₃, news_out N₃, S₃.gd, S₃.off fun p hp => hoff p (List.mem_append_right _ (.tail _ hp)), mf₃, o₃, zs₃, rfl, (S₃.of S'.sub).pop, hz₃, (by show _ ≤ zs.length + (i + 1); omega), (hm₃ _ (by decide) (by decide) (by decide)).trans hmf', (hm₃ _ (by decide) (by decide) (by decide)).trans hmn'⟩
  · rintro h tk m' mt' nw' F' N' G' ⟨mf', o', zs', rfl, S', hz', hl', hmf', hmn'⟩
    have hl' : zs'.length ≤ zs.length + vs.length := hl'
    k_steps
    exact hQ _ _ m' mf' nw' o' zs' F' N' S' hz' (by omega) hmf' hmn'
theorem turn_loop {b : List Stmt} {vs : List Value} {ns : List Int} {ln : Addr} {k : Nat} (hb : b = st5) (hsc : sc = lawSc) (B : Below A₀ h₀ [] h₀) (X : (hd.heap_1 w.params).In h₀) (T : Top p loose mean mg mb h₀) (hdp : dp < 600) (hun : un < 100) (hI : IntsAre vs ns) (hlen : vs.length ≤ 5)
    (S : Sn w nw nw mf rest dfa fa df o (zs.map tkE) (zs.map kyE)) (hz : Zs nw zs) (hl : zs.length ≤ 500) (F : Fr h₀ L s.heap m) (N : News h₀ L s.heap ((mf ++ ((df, o) :: rest)) ++ nw))
    (h7 : (L + 1 + 1 + 1 + 1 + 1 + 1 + 1, o7) ∈ rest) (d7 : o7.data = .cell (some (.ref df))) (hln : (ln, listOf vs.toArray k) ∈ rest) (hmf : m "factory" = some (.ref fa)) (hmn : m "numbers" = some (.ref ln))
    (hQ : ∀ h' tk' m' mf' nw' o' zs', Fr h₀ L h' m' → News h₀ L h' ((mf' ++ ((df, o') :: rest)) ++ nw') → Sn w nw nw' mf' rest dfa fa df o' (zs'.map tkE) (zs'.map kyE) → Zs nw' zs' → zs'.length ≤ zs.length + 10 → Q .next { s with heap := h', toks := tk' }) :
    wpAny (model PR w) (tA dp un gd (some [envOfC nm sc L la cd])) (execs b (envOfC nm sc L la cd)) Q E s := by
  k_with_none
  (k_with "ktr_room" => ((first | k_dflt (exact lt_0 (by assumption) rfl) | k_dflt (exact lt_1 (by assumption) rfl) | ((simp only [depth_under_make, depth_under_kw, depth_in1, depth_deeper, depth_caller, recursionLimit] at *); omega))))
  (k_with "k_room" => ((first | k_dflt (exact lt_0 (by assumption) rfl) | k_dflt (exact lt_1 (by assumption) rfl) | ((simp only [depth_under_make, depth_under_kw, depth_in1, depth_deeper, depth_caller, recursionLimit] at *); omega))))
  (k_with "k_units" => ((first | k_dflt (exact lt_0 (by assumption) rfl) | k_dflt (exact lt_1 (by assumption) rfl) | k_dflt (exact lt_2 (by assumption) rfl) | k_dflt (exact lt_3 (by assumption) rfl) | ((have qhcL9 := cLine_is); (simp only [units_in1, units_deeper, Around.mark_units, units_caller, cLine] at *); omega))))
  (k_with "execs cons" => (((first | (with_reducible show wpAny _ _ _ _ _ (Shared.mk _ _ _ (_ + 1) _)) | (with_reducible show wpAny _ _ _ _ _ (Shared.mk _ _ _ (Shared.toks (Shared.mk _ _ _ _ _)) _))); refine tok_gen (fun tk => ?_))))
  (k_with "k_enter" => ((refine' code_defN ?h306hk2 ?h306hk3 ?h306hk4 ?h306hk5 ?h306hk6 ?h306hk7 ?h306hk8 ?h306hk9 ?h306hkB ?_ ?h306hc2 ?h306hc3 ?h306hc4 ?h306hc5; (case h306hk2 => k_asm); (case h306hk3 => k_asm); (case h306hk4 => k_asm); (case h306hk5 => k_asm); (case h306hk6 => k_is); (case h306hk7 => k_is); (case h306hk8 => k_room); (case h306hk9 => first | exact BindsTo.of_eq rfl | exact binds_K (by k_in) rfl (by k_is) rfl rfl rfl | fail "k_enter: no rule for these arguments"); (case h306hc5 => decide); (case h306hkB => exact locs rfl); (case h306hc2 => exact rfl); (case h306hc3 => exact rfl); (case h306hc4 => exact rfl); k_whole; intro qg' qL' qh' qFG' qF' qN' qX' qT'; (try dsimp only); (try k_fold))))
  (k_with "eval Name" => ((k_here; k_dflt (refine' nameX_L ?h307hF ?h307hv ?_ ?h307ha ?h307hb; (case h307hF => k_asm); (case h307ha => rfl); (case h307hb => rfl); (case h307hv => assumption); k_whole))))
  (k_with "exec For" => ((k_here; k_dflt (refine' for_F ?h308hF ?_ ?h308ht; (case h308hF => k_asm); (case h308ht => (intro _ _; rfl))))))
  (k_with "call type:range" => ((k_here; k_dflt (refine' range1_rows ?h309hF ?h309hN ?_; (case h309hF => k_asm); (case h309hN => k_asm); k_whole); intro qh' qk' qt' qu' qv' qR' qF' qN' qkp')))
  conv at hb => rhs; whnf
  conv at hsc => rhs; whnf
  subst hb hsc
  k_steps
  refine ⟨2, _, _, m, mf ++ ((df, o) :: rest), nw, JN w nw rest dfa fa df ln (fun i => zs.length + 5 * i), SrcOk.range (by assumption) (by decide) (by decide), rfl, by assumption, by assumption, S.gd, ⟨mf, o, zs, rfl, S, hz, by simp, hmf, hmn⟩, (fun _ _ _ _ _ p hp => by cases hp), ?_, ?_⟩
  · rintro i v m₁ mt nw₁ I oI h tk E' hi ⟨t, rfl⟩ ⟨mf', o', zs', rfl, S', hz', hl', hmf', hmn'⟩ G' hfI F' N' hoff
    have hl' : zs'.length ≤ zs.length + 5 * i := hl'
    refine wpAny_assign_Name ?_
    refine storeX_L F' N' (fun h' F₂ N₂ => ?_) rfl rfl
    have N₃ := news_in N₂
    refine num_loop rfl rfl B X T hdp hun hI hlen (S'.push hoff).base hz' (by omega) F₂ (fun p hp => N₃ p (by rw [List.append_assoc] at hp; exact hp)) (.tail _ h7) d7 (.tail _ hln) hmf' hmn' fun h₃ tk₃ m₃ mf₃ nw₃ o₃ zs₃ F₃ N₃ S₃ hz₃ hl₃ hmf₃ hmn₃ => ?_
    exact ⟨.inl rfl, h₃, tk₃, m₃, mf₃ ++ ((df, o₃) :: rest), nw₃, rfl, F₃, news_out (fun p hp => N₃ p (by rw [List.append_assoc]; exact hp)), S₃.gd, S₃.off fun p hp => hoff p (List.mem_append_right _ (.tail _ hp)), mf₃, o₃, zs₃, rfl, (S₃.of S'.sub).pop, hz₃, (by show _ ≤ zs.length + 5 * (i + 1); omega), hmf₃, hmn₃⟩
  · rintro h tk m' mt' nw' F' N' G' ⟨mf', o', zs', rfl, S', hz', hl', hmf', hmn'⟩
    have hl' : zs'.length ≤ zs.length + 5 * 2 := hl'
    k_steps
    exact hQ _ _ m' mf' nw' o' zs' F' N' S' hz' (by omega)
end
end Mine
namespace Mine
open Classical
open PyProof.Rows.LCg
def st4 : List Stmt := match lawB with
  | [_, _, _, _, a, _, _, _] => [a]
  | _ => []
section
variable {w : World} {p : Program} {loose : List Str} {mean : ExcName → Option Value} {mg mb : Str → Option Value} {dp un : Nat} {gd : Option (List Code)} {s : Shared} {h₀ : Heap} {L : Addr} {cd : Value} {nm : Str} {sc : Scope} {A₀ : Around} {m : Str → Option Value} {Q : Flow → Shared → Prop} {E : Value → Shared → Prop}
  {nw : List (Addr × Obj)} {la : Addr} {o1 o2 o3 o4 o5 o6 o7 : Obj} {r : List (Addr × Obj)}
theorem s_fac {b : List Stmt} (hb : b = st4) (hsc : sc = lawSc) (X : (hd.heap_1 w.params).In h₀) (T : Top p loose mean mg mb h₀)
    (F : Fr h₀ L s.heap m) (N : News h₀ L s.heap (cells7 L o1 o2 o3 o4 o5 o6 o7 (r ++ nw))) (hr : ∀ p ∈ r ++ nw, p.1 ≠ L + 1 + 1 + 1 + 1 + 1 + 1 + 1 ∨ ∀ v, p.2.data ≠ .cell v) (d7 : CellO o7)
    (hQ : ∀ h' tk' x dx df o7', Fr h₀ L h' (fun z => if z = "factory" then some (.ref x) else m z) → News h₀ L h' ((df, { cls := .type "dict", data := .dict #[] }) :: (x, instObj 130 dx) :: (dx, dictOf [] 0) :: cells7 L o1 o2 o3 o4 o5 o6 o7' (r ++ nw)) → o7'.data = .cell (some (.ref df)) → (df == sysModules) = false →
      AllLt dx (cells7 L o1 o2 o3 o4 o5 o6 o7 (r ++ nw)) → dx < x → (∀ p ∈ (x, instObj 130 dx) :: (dx, dictOf [] 0) :: cells7 L o1 o2 o3 o4 o5 o6 o7 (r ++ nw), p.1 < df) → Q .next { s with heap := h', toks := tk' }) :
    wpAny (model PR w) (tA dp un gd (some [envOfC nm sc L la cd])) (execs b (envOfC nm sc L la cd)) Q E s := by
  k_with_none
  (k_with "ktr_room" => ((first | k_dflt (exact lt_0 (by assumption) rfl) | k_dflt (exact lt_1 (by assumption) rfl) | ((simp only [depth_under_make, depth_under_kw, depth_in1, depth_deeper, depth_caller, recursionLimit] at *); omega))))
  (k_with "k_room" => ((first | k_dflt (exact lt_0 (by assumption) rfl) | k_dflt (exact lt_1 (by assumption) rfl) | ((simp only [depth_under_make, depth_under_kw, depth_in1, depth_deeper, depth_caller, recursionLimit] at *); omega))))
  (k_with "k_units" => ((first | k_dflt (exact lt_0 (by assumption) rfl) | k_dflt (exact lt_1 (by assumption) rfl) | k_dflt (exact lt_2 (by assumption) rfl) | k_dflt (exact lt_3 (by assumption) rfl) | ((have qhcL9 := cLine_is); (simp only [units_in1, units_deeper, Around.mark_units, units_caller, cLine] at *); omega))))
  (k_with "execs cons" => (((first | (with_reducible show wpAny _ _ _ _ _ (Shared.mk _ _ _ (_ + 1) _)) | (with_reducible show wpAny _ _ _ _ _ (Shared.mk _ _ _ (Shared.toks (Shared.mk _ _ _ _ _)) _))); refine tok_gen (fun tk => ?_))))
  (k_with "k_enter" => ((refine' code_defN ?h314hk2 ?h314hk3 ?h314hk4 ?h314hk5 ?h314hk6 ?h314hk7 ?h314hk8 ?h314hk9 ?h314hkB ?_ ?h314hc2 ?h314hc3 ?h314hc4 ?h314hc5; (case h314hk2 => k_asm); (case h314hk3 => k_asm); (case h314hk4 => k_asm); (case h314hk5 => k_asm); (case h314hk6 => k_is); (case h314hk7 => k_is); (case h314hk8 => k_room); (case h314hk9 => first | exact BindsTo.of_eq rfl | exact binds_K (by k_in) rfl (by k_is) rfl rfl rfl | fail "k_enter: no rule for these arguments"); (case h314hc5 => decide); (case h314hkB => exact locs rfl); (case h314hc2 => exact rfl); (case h314hc3 => exact rfl); (case h314hc4 => exact rfl); k_whole; intro qg' qL' qh' qFG' qF' qN' qX' qT'; (try dsimp only); (try k_fold))))
  (k_with "k_ne" => (first | exact Or.inr (by intro qv9 qe9; cases qe9) | exact Or.inl (show @Ne Nat _ _ by omega) | exact Or.inr (by assumption)))
  (k_with "k_all" => (first | exact List.forall_mem_nil _ | exact good_noCell (by assumption) | assumption | (refine' List.forall_mem_cons.mpr ⟨?h316ha, ?h316hb⟩; (case h316ha => k_ne); (case h316hb => k_all))))
  (k_with "k_updF" => (first | (refine' UpdC.head ?h317ha; (case h317ha => k_all)) | (refine' UpdC.tail ?h317ha ?h317hb; (case h317ha => k_ne); (case h317hb => k_updF))))
  (k_with "storeName" => ((k_here; k_dflt (refine' storeC_W ?h318hF ?h318hN ?h318hc ?h318hU ?h318hd ?_ ?h318ha ?h318hb; (case h318hF => k_asm); (case h318hN => k_asm); (case h318ha => rfl); (case h318hb => rfl); (case h318hc => rfl); (case h318hU => k_updF); (case h318hd => assumption); k_whole); intro qh' qo' qF' qN' qd'; (try dsimp only at qN'); (try k_sweep))))
  (k_with "eval Dict nil nil" => ((k_here; k_dflt (refine' newD_L ?h319hF ?h319hN ?h319hb ?_; (case h319hF => k_asm); (case h319hN => k_asm); (case h319hb => exact Top.nolimit (by k_asm)); k_whole); intro qd' qh' qF' qN' ql1 qhs'; (try k_sweep))))
  (k_with "call ref" => ((k_here; (with_reducible show wpAny _ _ (call (Value.ref 130) []) _ _ _); k_dflt (refine' call_cls0 ?h320hk1 ?h320hk2 ?h320hk3 ?h320hk4 ?h320hk5 ?_; (case h320hk1 => k_asm); (case h320hk2 => k_asm); (case h320hk3 => k_asm); (case h320hk4 => k_is); (case h320hk5 => k_is); k_whole); intro qx' qd' qh' qF' qN' ql1 ql2; (try k_sweep))))
  conv at hb => rhs; whnf
  conv at hsc => rhs; whnf
  subst hb hsc
  obtain ⟨v7, d7⟩ := d7
  k_steps
  (with_reducible rename Fr _ _ _ _ => F9); (with_reducible rename News _ _ _ _ => N9)
  exact hQ _ _ _ _ _ _ F9 (fun p hp => N9 p (.tail _ hp)) (by assumption) (by assumption) (by assumption) (by assumption) (by assumption)
end
end Mine
namespace Mine
open Classical
open PyProof.Rows.LCg
def oneBody : List Stmt := match lawB with
  | [_, _, _, _, _, _, .For _ _ b _ _, _] => b
  | _ => []
def st6 : List Stmt := match lawB with
  | [_, _, _, _, _, _, a, b] => [a, b]
  | _ => []
def JF (i₀ : Nat) (z : Seen) (nw : List (Addr × Obj)) (i : Nat) (ys : List Value) (nw' : List (Addr × Obj)) : Prop := nw' = nw ∧ ys = if i₀ < i then [.ref z.a2] else []
theorem JF.noTxt {i₀ i : Nat} {z : Seen} {nw nw' : List (Addr × Obj)} {ys : List Value} (h : JF i₀ z nw i ys nw') : NoTxt ys := noTxt_all fun v hv => by
  rw [h.2] at hv
  split at hv
  · rw [List.mem_singleton.mp hv]
    exact ⟨fun _ _ e => (by cases e), fun _ _ e => (by cases e)⟩
  · cases hv
section
variable {w : World} {p : Program} {loose : List Str} {mean : ExcName → Option Value} {mg mb : Str → Option Value} {dp un : Nat} {gd : Option (List Code)} {s : Shared} {h₀ : Heap} {L : Addr} {cd : Value} {nm : Str} {sc : Scope} {A₀ : Around} {m : Str → Option Value} {Q : Flow → Shared → Prop} {E : Value → Shared → Prop}
  {nw : List (Addr × Obj)} {la df : Addr} {o o1 o2 o3 o4 o5 o6 o7 : Obj} {r : List (Addr × Obj)} {zs : List Seen} {z : Seen}
theorem entry_at {es : Array DictEntry} {i : Nat} {e : DictEntry} (h : es.toList = (zs.map kyE).map (entryOfKey (dKind PR w))) (he : es[i]? = some e) : ∃ z, zs[i]? = some z ∧ e.key = .ref z.a2 := by
  have h1 : es.toList[i]? = some e := by simpa using he
  rw [h, List.getElem?_map, List.getElem?_map] at h1
  cases q : zs[i]? with
  | none => rw [q] at h1; cases h1
  | some z => rw [q] at h1; cases h1; exact ⟨z, rfl, rfl⟩
theorem entry_size {es : Array DictEntry} (h : es.toList = (zs.map kyE).map (entryOfKey (dKind PR w))) : es.size = zs.length := by
  have := congrArg List.length h
  simpa using this
theorem item_Z {A : Around} {Q E : Value → Shared → Prop} {all : List (Addr × Obj)} {value slice : PySem.Expr} (D : DictL w nw o (zs.map kyE)) (N : News h₀ L s.heap all) (hm : (df, o) ∈ all) (hs : ∀ p ∈ nw, p ∈ all) (hz : z ∈ zs) (hu : A.in1.units + 16 < cLine) (h : ∀ tk, Q (.ref z.x) { s with toks := tk })
    (hsub : subscripted slice false (.ref df) (.ref z.a2) = operate [.ref df, .ref z.a2] (getItem (.ref df) (.ref z.a2))) (hg : ∀ r, letTemporaryGo value (.ref df) r = pure ()) :
    wpAny (model PR w) A (subscriptTail value slice (.ref df) (.ref z.a2)) Q E s := by
  have N1 : News h₀ L s.heap nw := fun p hp => N p (hs p hp)
  have H := D.at_ N1 (N _ hm).1
  have hz' : kyE z ∈ zs.map kyE := List.mem_map_of_mem hz
  obtain ⟨i, hi⟩ := List.getElem?_of_mem hz'
  exact subscriptTail_builtin H.typeIs slot_dict_getitem.lookup (wpAny_getItem_heap (knd := dKind PR w) hu ⟨(D.2.2.1 _ hz').1.to N1, keyD_ok z.n, keyD_depth z.n⟩ H (atKey_of_get D.2.2.2 (i := i) (k := keyD z.n) hi) (h _)) hsub hg
theorem is_refs {A : Around} {Q E : Value → Shared → Prop} {all : List (Addr × Obj)} {z1 z2 : Seen} (Z : Zs nw zs) (h1 : z1 ∈ zs) (h2 : z2 ∈ zs) (N : News h₀ L s.heap all) (hs : ∀ p ∈ nw, p ∈ all) (hne : @Ne Nat z1.x z2.x) (h : Q (.bool false) s) :
    wpAny (model PR w) A (compareOp .Is (.ref z1.x) (.ref z2.x)) Q E s := by
  obtain ⟨d1, _, _, _, m1, _⟩ := Z.1 z1 h1
  obtain ⟨d2, _, _, _, m2, _⟩ := Z.1 z2 h2
  exact wpAny_is_ref_other hne (N _ (hs _ m1)).1 (N _ (hs _ m2)).1 (by intro e; cases e) h
theorem one_body {b : List Stmt} {i₀ : Nat} {I : Addr} {oI : Obj} (hb : b = oneBody) (hsc : sc = lawSc) (X : (hd.heap_1 w.params).In h₀) (T : Top p loose mean mg mb h₀) (hdp : dp < 600) (hun : un < 100)
    (D : DictL w nw o (zs.map kyE)) (G : AllGood nw) (Z : Zs nw zs) (hsm : (df == sysModules) = false) (hlz : zs.length ≤ 100) (hz : zs[i₀]? = some z)
    (F : Fr h₀ L s.heap m) (N : News h₀ L s.heap ((I, oI) :: (df, o) :: cells7 L o1 o2 o3 o4 o5 o6 o7 r ++ nw)) (d4 : o4.data = .cell (some (.ref z.a2))) (d7 : o7.data = .cell (some (.ref df)))
    (hQ : ∀ h' tk', Fr h₀ L h' m → News h₀ L h' ((I, oI) :: (df, o) :: cells7 L o1 o2 o3 o4 o5 o6 o7 r ++ nw) → Q .next { s with heap := h', toks := tk' }) :
    wpAny (model PR w) (tA dp un gd (some [envOfC nm sc L la cd])) (execs b (envOfC nm sc L la cd)) Q E s := by
  k_with_none
  (k_with "ktr_room" => ((first | k_dflt (exact lt_0 (by assumption) rfl) | k_dflt (exact lt_1 (by assumption) rfl) | ((simp only [depth_under_make, depth_under_kw, depth_in1, depth_deeper, depth_caller, recursionLimit] at *); omega))))
  (k_with "k_room" => ((first | k_dflt (exact lt_0 (by assumption) rfl) | k_dflt (exact lt_1 (by assumption) rfl) | ((simp only [depth_under_make, depth_under_kw, depth_in1, depth_deeper, depth_caller, recursionLimit] at *); omega))))
  (k_with "k_units" => ((first | k_dflt (exact lt_0 (by assumption) rfl) | k_dflt (exact lt_1 (by assumption) rfl) | k_dflt (exact lt_2 (by assumption) rfl) | k_dflt (exact lt_3 (by assumption) rfl) | ((have qhcL9 := cLine_is); (simp only [units_in1, units_deeper, Around.mark_units, units_caller, cLine] at *); omega))))
  (k_with "execs cons" => (((first | (with_reducible show wpAny _ _ _ _ _ (Shared.mk _ _ _ (_ + 1) _)) | (with_reducible show wpAny _ _ _ _ _ (Shared.mk _ _ _ (Shared.toks (Shared.mk _ _ _ _ _)) _))); refine tok_gen (fun tk => ?_))))
  (k_with "k_enter" => ((refine' code_defN ?h325hk2 ?h325hk3 ?h325hk4 ?h325hk5 ?h325hk6 ?h325hk7 ?h325hk8 ?h325hk9 ?h325hkB ?_ ?h325hc2 ?h325hc3 ?h325hc4 ?h325hc5; (case h325hk2 => k_asm); (case h325hk3 => k_asm); (case h325hk4 => k_asm); (case h325hk5 => k_asm); (case h325hk6 => k_is); (case h325hk7 => k_is); (case h325hk8 => k_room); (case h325hk9 => first | exact BindsTo.of_eq rfl | exact binds_K (by k_in) rfl (by k_is) rfl rfl rfl | fail "k_enter: no rule for these arguments"); (case h325hc5 => decide); (case h325hkB => exact locs rfl); (case h325hc2 => exact rfl); (case h325hc3 => exact rfl); (case h325hc4 => exact rfl); k_whole; intro qg' qL' qh' qFG' qF' qN' qX' qT'; (try dsimp only); (try k_fold))))
  (k_with "k_mem" => (assumption))
  (k_with "k_ne" => (first | exact Or.inr (by intro qv9 qe9; cases qe9) | exact Or.inl (show @Ne Nat _ _ by omega) | exact Or.inr (by assumption)))
  (k_with "k_all" => (first | exact List.forall_mem_nil _ | exact good_noCell (by assumption) | assumption | (refine' List.forall_mem_append.mpr ⟨?h328ha, ?h328hb⟩; (case h328ha => assumption); (case h328hb => exact good_noCell (by assumption))) | (refine' List.forall_mem_cons.mpr ⟨?h328ha, ?h328hb⟩; (case h328ha => k_ne); (case h328hb => k_all))))
  (k_with "k_updF" => (first | (refine' UpdC.head ?h329ha; (case h329ha => k_all)) | (refine' UpdC.tail ?h329ha ?h329hb; (case h329ha => k_ne); (case h329hb => k_updF))))
  (k_with "eval ListComp" => ((k_here; k_dflt (refine' LC_F ?h330hF ?h330hk1 ?h330hk2 ?h330hk3 ?h330hk4 ?h330hk5 ?h330hk6 ?_; (case h330hF => k_asm); (case h330hk1 => with_unfolding_all rfl); (case h330hk2 => decide); (case h330hk3 => rfl); (case h330hk4 => decide); (case h330hk5 => rfl); (case h330hk6 => decide); k_whole))))
  (k_with "exec For" => ((k_here; k_dflt (refine' for_F ?h331hF ?_ ?h331ht; (case h331hF => k_asm); (case h331ht => (intro _ _; rfl))))))
  (k_with "subscriptTail" => ((k_here; (with_reducible show wpAny _ _ (subscriptTail _ _ (Value.ref _) (Value.ref _)) _ _ _); k_dflt (refine' item_Z ?h332hD ?h332hN ?h332hm ?h332hh0 ?h332hz ?h332hu ?_ ?h332hhs ?h332hhg; (case h332hD => assumption); (case h332hN => k_asm); (case h332hm => k_mem); (case h332hh0 => (intro qp9 qhp9; (repeat' first | exact qhp9 | exact List.mem_append_right _ qhp9 | refine List.Mem.tail _ ?_))); (case h332hz => assumption); (case h332hu => k_units); (case h332hhs => with_unfolding_all rfl); (case h332hhg => (intro _; with_unfolding_all rfl)); k_whole); intro qtk')))
  (k_with "compareOp Is ref ref" => ((k_here; k_dflt (first | (refine wpAny_is_ref_self ?_) | (refine' is_refs ?h333hZ ?h333ha ?h333hb ?h333hN ?h333hh0 ?h333hn ?_; (case h333hZ => assumption); (case h333ha => assumption); (case h333hb => assumption); (case h333hN => k_asm); (case h333hh0 => (intro qp9 qhp9; (repeat' first | exact qhp9 | exact List.mem_append_right _ qhp9 | refine List.Mem.tail _ ?_))); (case h333hn => assumption); k_whole)))))
  conv at hb => rhs; whnf
  conv at hsc => rhs; whnf
  subst hb hsc
  obtain ⟨es, ep, hdd, hes⟩ := D.2.1
  have hsz := entry_size hes
  have hi0 : i₀ < zs.length := (List.getElem?_eq_some_iff.mp hz).1
  have hzm : z ∈ zs := List.mem_of_getElem? hz
  k_steps
  refine ⟨es.size, _, _, (I, oI) :: (df, o) :: cells7 L o1 o2 o3 o4 o5 o6 o7 r, nw, JF i₀ z nw, SrcOk.dict D.1.1 hdd hsm, ?_, rfl, ?_, F, N, G, ⟨rfl, rfl⟩, ?_, ?_, ?_⟩
  · intro p hp
    rw [List.mem_singleton.mp hp]
    exact .tail _ (.head _)
  · rw [hsz, sizeLine_eq]
    exact Nat.le_trans hlz (by decide)
  · intro i ys nw' h
    exact h.noTxt
  · rintro j v ys nw₁ I2 oI2 C oC m₂ D2 h tk E' hj ⟨e, he, rfl⟩ ⟨rfl, rfl⟩ G' nC hx F' N'
    obtain ⟨zj, hzj, hk⟩ := entry_at hes he
    rw [hk] at hx
    have hzjm : zj ∈ zs := List.mem_of_getElem? hzj
    refine wpAny_tests_one ?_
    by_cases hij : j = i₀
    · subst hij
      rw [hz] at hzj
      cases hzj
      k_steps
      refine ⟨_, _, nw₁, rfl, F', N', G', rfl, ?_⟩
      rw [if_neg (Nat.lt_irrefl _), if_pos (Nat.lt_succ_self _)]
      rfl
    · have hne : @Ne Nat zj.x z.x := fun q => by
        have hp := List.pairwise_iff_getElem.mp Z.2
        have hjl : j < zs.length := (List.getElem?_eq_some_iff.mp hzj).1
        have e1 : (zs.map (·.x))[j]'(by simpa using hjl) = zj.x := by
          have := (List.getElem?_eq_some_iff.mp hzj).2
          simp [this]
        have e2 : (zs.map (·.x))[i₀]'(by simpa using hi0) = z.x := by
          have := (List.getElem?_eq_some_iff.mp hz).2
          simp [this]
        rcases Nat.lt_or_gt_of_ne hij with q' | q'
        · exact hp j i₀ (by simpa using hjl) (by simpa using hi0) q' (e1.trans (q.trans e2.symm))
        · exact hp i₀ j (by simpa using hi0) (by simpa using hjl) q' (e2.trans (q.symm.trans e1.symm))
      k_steps
      refine ⟨_, _, nw₁, rfl, F', N', G', rfl, ?_⟩
      by_cases hl : i₀ < j
      · rw [if_pos hl, if_pos (by omega)]
      · rw [if_neg hl, if_neg (by omega)]
  · rintro D2 h tk ys nw' F' N' G' hD ⟨rfl, rfl⟩
    rw [if_pos (by rw [hsz]; exact hi0)] at N'
    k_steps
    (with_reducible rename Fr _ _ _ _ => F9); (with_reducible rename News _ _ _ _ => N9)
    exact hQ _ _ F9 fun p hp => N9 p (.tail _ hp)
/-- what the last loop leaves -/
def JL (mtf : Obj → List (Addr × Obj)) (nw : List (Addr × Obj)) (_ : Nat) (_ : Str → Option Value) (mt nw' : List (Addr × Obj)) : Prop := nw' = nw ∧ ∃ o4, mt = mtf o4 ∧ CellO o4
theorem last_loop {b : List Stmt} (hb : b = st6) (hsc : sc = lawSc) (X : (hd.heap_1 w.params).In h₀) (T : Top p loose mean mg mb h₀) (hdp : dp < 600) (hun : un < 100)
    (D : DictL w nw o (zs.map kyE)) (G : AllGood nw) (Z : Zs nw zs) (hsm : (df == sysModules) = false) (hlz : zs.length ≤ 100) (hr : ∀ p ∈ r, p.1 ≠ L + 1 + 1 + 1 + 1 ∨ ∀ v, p.2.data ≠ .cell v)
    (F : Fr h₀ L s.heap m) (N : News h₀ L s.heap ((df, o) :: cells7 L o1 o2 o3 o4 o5 o6 o7 r ++ nw)) (d4 : CellO o4) (d7 : o7.data = .cell (some (.ref df)))
    (hQ : ∀ h' tk' m', Fr h₀ L h' m' → Q (.ret (.bool true)) { s with heap := h', toks := tk' }) :
    wpAny (model PR w) (tA dp un gd (some [envOfC nm sc L la cd])) (execs b (envOfC nm sc L la cd)) Q E s := by
  k_with_none
  (k_with "ktr_room" => ((first | k_dflt (exact lt_0 (by assumption) rfl) | k_dflt (exact lt_1 (by assumption) rfl) | ((simp only [depth_under_make, depth_under_kw, depth_in1, depth_deeper, depth_caller, recursionLimit] at *); omega))))
  (k_with "k_room" => ((first | k_dflt (exact lt_0 (by assumption) rfl) | k_dflt (exact lt_1 (by assumption) rfl) | ((simp only [depth_under_make, depth_under_kw, depth_in1, depth_deeper, depth_caller, recursionLimit] at *); omega))))
  (k_with "k_units" => ((first | k_dflt (exact lt_0 (by assumption) rfl) | k_dflt (exact lt_1 (by assumption) rfl) | k_dflt (exact lt_2 (by assumption) rfl) | k_dflt (exact lt_3 (by assumption) rfl) | ((have qhcL9 := cLine_is); (simp only [units_in1, units_deeper, Around.mark_units, units_caller, cLine] at *); omega))))
  (k_with "execs cons" => (((first | (with_reducible show wpAny _ _ _ _ _ (Shared.mk _ _ _ (_ + 1) _)) | (with_reducible show wpAny _ _ _ _ _ (Shared.mk _ _ _ (Shared.toks (Shared.mk _ _ _ _ _)) _))); refine tok_gen (fun tk => ?_))))
  (k_with "k_enter" => ((refine' code_defN ?h325hk2 ?h325hk3 ?h325hk4 ?h325hk5 ?h325hk6 ?h325hk7 ?h325hk8 ?h325hk9 ?h325hkB ?_ ?h325hc2 ?h325hc3 ?h325hc4 ?h325hc5; (case h325hk2 => k_asm); (case h325hk3 => k_asm); (case h325hk4 => k_asm); (case h325hk5 => k_asm); (case h325hk6 => k_is); (case h325hk7 => k_is); (case h325hk8 => k_room); (case h325hk9 => first | exact BindsTo.of_eq rfl | exact binds_K (by k_in) rfl (by k_is) rfl rfl rfl | fail "k_enter: no rule for these arguments"); (case h325hc5 => decide); (case h325hkB => exact locs rfl); (case h325hc2 => exact rfl); (case h325hc3 => exact rfl); (case h325hc4 => exact rfl); k_whole; intro qg' qL' qh' qFG' qF' qN' qX' qT'; (try dsimp only); (try k_fold))))
  (k_with "k_mem" => (assumption))
  (k_with "k_ne" => (first | exact Or.inr (by intro qv9 qe9; cases qe9) | exact Or.inl (show @Ne Nat _ _ by omega) | exact Or.inr (by assumption)))
  (k_with "k_all" => (first | exact List.forall_mem_nil _ | exact good_noCell (by assumption) | assumption | (refine' List.forall_mem_append.mpr ⟨?h328ha, ?h328hb⟩; (case h328ha => assumption); (case h328hb => exact good_noCell (by assumption))) | (refine' List.forall_mem_cons.mpr ⟨?h328ha, ?h328hb⟩; (case h328ha => k_ne); (case h328hb => k_all))))
  (k_with "k_updF" => (first | (refine' UpdC.head ?h329ha; (case h329ha => k_all)) | (refine' UpdC.tail ?h329ha ?h329hb; (case h329ha => k_ne); (case h329hb => k_updF))))
  (k_with "eval ListComp" => ((k_here; k_dflt (refine' LC_F ?h330hF ?h330hk1 ?h330hk2 ?h330hk3 ?h330hk4 ?h330hk5 ?h330hk6 ?_; (case h330hF => k_asm); (case h330hk1 => with_unfolding_all rfl); (case h330hk2 => decide); (case h330hk3 => rfl); (case h330hk4 => decide); (case h330hk5 => rfl); (case h330hk6 => decide); k_whole))))
  (k_with "exec For" => ((k_here; k_dflt (refine' for_F ?h331hF ?_ ?h331ht; (case h331hF => k_asm); (case h331ht => (intro _ _; rfl))))))
  (k_with "subscriptTail" => ((k_here; (with_reducible show wpAny _ _ (subscriptTail _ _ (Value.ref _) (Value.ref _)) _ _ _); k_dflt (refine' item_Z ?h332hD ?h332hN ?h332hm ?h332hh0 ?h332hz ?h332hu ?_ ?h332hhs ?h332hhg; (case h332hD => assumption); (case h332hN => k_asm); (case h332hm => k_mem); (case h332hh0 => (intro qp9 qhp9; (repeat' first | exact qhp9 | exact List.mem_append_right _ qhp9 | refine List.Mem.tail _ ?_))); (case h332hz => assumption); (case h332hu => k_units); (case h332hhs => with_unfolding_all rfl); (case h332hhg => (intro _; with_unfolding_all rfl)); k_whole); intro qtk')))
  (k_with "compareOp Is ref ref" => ((k_here; k_dflt (first | (refine wpAny_is_ref_self ?_) | (refine' is_refs ?h333hZ ?h333ha ?h333hb ?h333hN ?h333hh0 ?h333hn ?_; (case h333hZ => assumption); (case h333ha => assumption); (case h333hb => assumption); (case h333hN => k_asm); (case h333hh0 => (intro qp9 qhp9; (repeat' first | exact qhp9 | exact List.mem_append_right _ qhp9 | refine List.Mem.tail _ ?_))); (case h333hn => assumption); k_whole)))))
  conv at hb => rhs; whnf
  conv at hsc => rhs; whnf
  subst hb hsc
  obtain ⟨es, ep, hdd, hes⟩ := D.2.1
  have hsz := entry_size hes
  k_steps
  refine ⟨es.size, _, _, m, (df, o) :: cells7 L o1 o2 o3 o4 o5 o6 o7 r, nw, JL (fun o4 => (df, o) :: cells7 L o1 o2 o3 o4 o5 o6 o7 r) nw, SrcOk.dict D.1.1 hdd hsm, rfl, F, N, G, ⟨rfl, o4, rfl, d4⟩, ?_, ?_, ?_⟩
  · rintro i m' mt' nw' ⟨_, o4', rfl, _⟩ p hp
    rw [List.mem_singleton.mp hp]
    exact .head _
  · rintro i v m₁ mt nw₁ I oI h tk E' hi ⟨e, he, rfl⟩ ⟨rfl, o4', rfl, v4, c4⟩ G' ⟨fI, hfI⟩ F' N' hoff
    have hoI : ∀ v, oI.data ≠ .cell v := fun v e => by rw [hfI] at e; cases e
    have hod : ∀ v, o.data ≠ .cell v := fun v e => by rw [hdd] at e; cases e
    simp only [List.cons_append] at N'
    obtain ⟨z, hz, hk⟩ := entry_at hes he
    rw [hk]
    refine wpAny_assign_Name ?_
    k_dflt (refine' storeC_W F' N' ?c ?U c4 (fun h' o' F₂ N₂ d' => ?_) ?a ?b; (case a => rfl); (case b => rfl); (case c => rfl); (case U => k_updF))
    try dsimp only at N₂
    refine one_body rfl rfl X T hdp hun D G' Z hsm hlz hz F₂ N₂ d' d7 fun h₃ tk₃ F₃ N₃ => ?_
    exact ⟨.inl rfl, h₃, tk₃, m₁, (df, o) :: cells7 L o1 o2 o3 o' o5 o6 o7 r, nw₁, rfl, F₃, N₃, G', off_ic hoff, rfl, _, rfl, ⟨_, d'⟩⟩
  · rintro h tk m' mt' nw' F' N' G' ⟨rfl, o4', rfl, c4⟩
    k_steps
    exact hQ _ _ m' F'
end
end Mine
namespace Mine
open Classical
open PyProof.Rows.LCg
def restB : List Stmt := match lawB with
  | _ :: r => r
  | _ => []
theorem execs_lit7 {M : Model} {A : Around} {env : Env} {a b c d e f g : Stmt} {Q : Flow → Shared → Prop} {E : Value → Shared → Prop} {s : Shared}
    (h : wpAny M A (execs [a] env) (fun x s₁ => x = .next ∧ wpAny M A (execs [b] env) (fun x s₂ => x = .next ∧ wpAny M A (execs [c] env) (fun x s₃ => x = .next ∧ wpAny M A (execs [d] env) (fun x s₄ => x = .next ∧ wpAny M A (execs [e] env) (fun x s₅ => x = .next ∧ wpAny M A (execs [f, g] env) Q E s₅) E s₄) E s₃) E s₂) E s₁) E s) :
    wpAny M A (execs [a, b, c, d, e, f, g] env) Q E s :=
  execs_cut _ [a] [b, c, d, e, f, g] h fun _ h => execs_cut _ [b] [c, d, e, f, g] h fun _ h => execs_cut _ [c] [d, e, f, g] h fun _ h => execs_cut _ [d] [e, f, g] h fun _ h => execs_cut _ [e] [f, g] h fun _ h => h
theorem lists_noCell {ln lm ld : Addr} {vs : List Value} {xs ds : List Addr} {k k' k'' : Nat} {c : Addr} : ∀ p ∈ lists3 ln lm ld vs xs ds k k' k'', p.1 ≠ c ∨ ∀ v, p.2.data ≠ .cell v := fun p hp => by
  rcases List.mem_cons.mp hp with rfl | hp
  · exact .inr fun v e => by cases e
  rcases List.mem_cons.mp hp with rfl | hp
  · exact .inr fun v e => by cases e
  rcases List.mem_cons.mp hp with rfl | hp
  · exact .inr fun v e => by cases e
  cases hp
section
variable {w : World} {p : Program} {loose : List Str} {mean : ExcName → Option Value} {mg mb : Str → Option Value} {dp un : Nat} {gd : Option (List Code)} {s : Shared} {h₀ : Heap} {L : Addr} {cd : Value} {nm : Str} {sc : Scope} {A₀ : Around} {m : Str → Option Value} {Q : Flow → Shared → Prop} {E : Value → Shared → Prop}
  {la ln : Addr} {o1 o2 o3 o4 o5 o6 o7 : Obj}
theorem law_rest {b : List Stmt} {vs : List Value} {ns : List Int} {k : Nat} (hb : b = restB) (hsc : sc = lawSc) (B : Below A₀ h₀ [] h₀) (X : (hd.heap_1 w.params).In h₀) (T : Top p loose mean mg mb h₀) (hdp : dp < 600) (hun : un < 100) (hI : IntsAre vs ns) (hlen : vs.length ≤ 5)
    (F : Fr h₀ L s.heap m) (N : News h₀ L s.heap (cells7 L o1 o2 o3 o4 o5 o6 o7 [(ln, listOf vs.toArray k)])) (d1 : CellO o1) (d2 : CellO o2) (d3 : CellO o3) (d4 : CellO o4) (d5 : CellO o5) (d6 : CellO o6) (d7 : CellO o7) (hmn : m "numbers" = some (.ref ln))
    (hQ : ∀ h' tk' m', Fr h₀ L h' m' → Q (.ret (.bool true)) { s with heap := h', toks := tk' }) :
    wpAny (model PR w) (tA dp un gd (some [envOfC nm sc L la cd])) (execs b (envOfC nm sc L la cd)) Q E s := by
  k_with_none
  conv at hb => rhs; whnf
  subst hb
  obtain ⟨v1, d1⟩ := d1
  refine execs_lit7 (s_made (nw := []) rfl hsc B X T hdp hun hI hlen F N (fun p hp => by cases hp) d1 hmn fun o1' lm xs k' h₁ tk₁ nw₁ F₁ N₁ G₁ d1' hR hnd => ⟨rfl, ?_⟩)
  refine s_due (r := [(lm, listOf (xs.map Value.ref).toArray k')]) rfl hsc X T hdp hun hI hlen F₁ N₁ G₁ hmn fun ld ds k'' h₂ tk₂ nw₂ F₂ N₂ G₂ hs₂ hD => ⟨rfl, ?_⟩
  have N₂' : News h₀ L h₂ (cells7 L o1' o2 o3 o4 o5 o6 o7 (lists3 ln lm ld vs xs ds k k' k'') ++ nw₂) := fun p hp => N₂ p (by
    simp only [List.mem_cons, List.cons_append, List.nil_append] at hp ⊢
    rcases hp with hp | hp | hp | hp | hp | hp | hp | hp | hp | hp | hp <;> simp only [hp, true_or, or_true])
  refine k_loop rfl hsc B X T hdp hun hI hlen F₂ N₂' G₂ d1' d2 d3 d4 d5 d6 rfl hmn (hR.mono hs₂) hnd hD fun h₃ tk₃ m₃ o2' o3' o4' o5' o6' F₃ N₃ c2 c3 c4 c5 c6 hm₃ => ⟨rfl, ?_⟩
  have hmn₃ : m₃ "numbers" = some (.ref ln) := (hm₃ _ (by decide) (by decide)).trans hmn
  refine s_fac (r := lists3 ln lm ld vs xs ds k k' k'') (nw := nw₂) rfl hsc X T F₃ N₃ (fun p hp => ?_) d7 fun h₄ tk₄ x dx df o7' F₄ N₄ d7' hsm a1 a2 a3 => ⟨rfl, ?_⟩
  · rcases List.mem_append.mp hp with hp | hp
    · exact lists_noCell p hp
    · exact good_noCell G₂ p hp
  have b1 := ktn_ltOf a1
  have inR : ∀ p ∈ cells7 L o1' o2' o3' o4' o5' o6' o7' (lists3 ln lm ld vs xs ds k k' k''), p.1 < dx := fun p hp => by
    have : ∀ p ∈ cells7 L o1' o2' o3' o4' o5' o6' o7 (lists3 ln lm ld vs xs ds k k' k''), p.1 < dx := fun p hp => b1 p (List.mem_append_left nw₂ hp)
    rcases List.mem_cons.mp hp with rfl | hp
    · exact this (_, o7) (.head _)
    · exact this p (.tail _ hp)
  have hdf : dx < df := a3 (dx, dictOf [] 0) (.tail _ (.head _))
  have S : Sn w ((x, instObj 130 dx) :: nw₂) ((x, instObj 130 dx) :: nw₂) [(dx, dictOf [] 0)] (cells7 L o1' o2' o3' o4' o5' o6' o7' (lists3 ln lm ld vs xs ds k k' k'')) dx x df { cls := .type "dict", data := .dict #[] } (([] : List Seen).map tkE) (([] : List Seen).map kyE) :=
    { sub := fun _ hp => hp, fac := .fresh, fst := DictL.empty w _, sm := hsm
      gd := fun p hp => by
        rcases List.mem_cons.mp hp with rfl | hp
        · exact .inr (.inl ⟨_, _, rfl⟩)
        · exact G₂ p hp
      inst := .head _
      ap := fun p hp q hq => by
        rw [List.mem_singleton.mp hq]
        rcases List.mem_cons.mp hp with rfl | hp
        · exact Nat.ne_of_gt hdf
        · exact Nat.ne_of_lt (inR p hp)
      apd := fun p hp => Nat.ne_of_lt (Nat.lt_trans (inR p hp) hdf)
      lf := fun _ hx => by cases hx
      ls := fun _ hx => by cases hx
      refs := fun _ hx => by cases hx
      len := by simp
      lens := by simp }
  have N₄' : News h₀ L h₄ (([(dx, dictOf [] 0)] ++ ((df, { cls := .type "dict", data := .dict #[] }) :: cells7 L o1' o2' o3' o4' o5' o6' o7' (lists3 ln lm ld vs xs ds k k' k''))) ++ ((x, instObj 130 dx) :: nw₂)) := fun p hp => N₄ p (by
    simp only [List.mem_cons, List.cons_append, List.nil_append] at hp ⊢
    rcases hp with hp | hp | hp | hp | hp | hp | hp | hp | hp | hp | hp | hp | hp | hp <;> simp only [hp, true_or, or_true])
  refine turn_loop rfl hsc B X T hdp hun hI hlen S ⟨(fun _ h => by cases h), List.nodup_nil⟩ (by simp) F₄ N₄' (.head _) d7' (.tail _ (.tail _ (.tail _ (.tail _ (.tail _ (.tail _ (.tail _ (.head _)))))))) rfl ((if_neg (by decide)).trans hmn₃) fun h₅ tk₅ m₅ mf₅ nw₅ o₅ zs F₅ N₅ S₅ Z₅ hl₅ => ⟨rfl, ?_⟩
  refine last_loop (o1 := o1') (o2 := o2') (o3 := o3') (o4 := o4') (o5 := o5') (o6 := o6') (o7 := o7') (r := lists3 ln lm ld vs xs ds k k' k'') rfl hsc X T hdp hun S₅.fst S₅.gd Z₅ S₅.sm (Nat.le_trans hl₅ (by simp)) lists_noCell F₅ (fun p hp => N₅ p ?_) c4 d7' fun h₆ tk₆ m₆ F₆ => hQ h₆ tk₆ m₆ F₆
  rcases List.mem_append.mp hp with hp | hp
  · exact List.mem_append_left _ (List.mem_append_right _ hp)
  · exact List.mem_append_right _ hp
end
end Mine
namespace Mine
open Classical
/-- behind the law's first statement -/
def PreN (h₀ : Heap) (L : Addr) (s₀ s' : Shared) : Prop :=
  ∃ vs ns ln k m' o1 o2 o3 o4 o5 o6 o7 h' tk', s' = { s₀ with heap := h', toks := tk' } ∧ Fr h₀ L h' m' ∧ News h₀ L h' (cells7 L o1 o2 o3 o4 o5 o6 o7 [(ln, listOf vs.toArray k)]) ∧ IntsAre vs ns ∧ vs.length ≤ 5 ∧ (CellO o1 ∧ CellO o2 ∧ CellO o3 ∧ CellO o4 ∧ CellO o5 ∧ CellO o6 ∧ CellO o7) ∧ m' "numbers" = some (.ref ln)
theorem len5 {ws : List Value} {f : Int → Int} {l : List Int} (h : IntsAre ws ((l.take 4).map f ++ [5])) : ws.length ≤ 5 := by
  rw [h.length]
  simp only [List.length_append, List.length_map, List.length_take, List.length_singleton]
  omega
theorem news_pick {h₀ h : Heap} {L : Addr} {o1 o2 o3 o4 o5 o6 o7 : Obj} {a b c d : Addr × Obj} (N : News h₀ L h (a :: b :: c :: d :: cells7 L o1 o2 o3 o4 o5 o6 o7 [])) : News h₀ L h (cells7 L o1 o2 o3 o4 o5 o6 o7 [a]) := fun p hp => N p (by
  simp only [List.mem_cons, List.not_mem_nil, or_false] at hp ⊢
  rcases hp with hp | hp | hp | hp | hp | hp | hp | hp <;> simp only [hp, true_or, or_true])
theorem cutN {M : Model} {A : Around} {env : Env} {a : Stmt} {r : List Stmt} {Q : Flow → Shared → Prop} {E : Value → Shared → Prop} {s : Shared} {h₀ : Heap} {L : Addr} {m : Str → Option Value} (_ : Fr h₀ L s.heap m)
    (h1 : wpAny M A (execs [a] env) (fun fl s' => fl = .next ∧ PreN h₀ L s s') E s) (h2 : ∀ s', PreN h₀ L s s' → wpAny M A (execs r env) Q E s') : wpAny M A (execs (a :: r) env) Q E s := execs_cut1 _ h1 h2
end Mine
open Mine in
theorem Mine.fin : PySem.Challenge.rw_lo0042_01.Holds := by
  k_with_none
  refine holds_law said fun h => ?_
  clear h
  refine turn_row row_eq hd ?_
  k_go0
  all_goals try k_fold
  (with_reducible rename Fr _ _ _ _ => F0)
  refine cutN F0 ?_ ?_
  · k_steps
    (with_reducible rename Fr _ _ _ _ => F9); (with_reducible rename News _ _ _ _ => N9); (with_reducible rename IntsAre _ _ => I9)
    exact ⟨_, _, _, _, _, _, _, _, _, _, _, _, _, _, rfl, F9, news_pick N9, I9, len5 I9, ⟨⟨_, by assumption⟩, ⟨_, by assumption⟩, ⟨_, by assumption⟩, ⟨_, by assumption⟩, ⟨_, by assumption⟩, ⟨_, by assumption⟩, ⟨_, by assumption⟩⟩, rfl⟩
  · rintro s' ⟨vs, ns, ln, k, m', o1, o2, o3, o4, o5, o6, o7, h', tk', rfl, F', N', hI, hl, ⟨c1, c2, c3, c4, c5, c6, c7⟩, hm⟩
    refine law_rest rfl rfl (by assumption) (by assumption) (by assumption) ?_ ?_ hI hl F' N' c1 c2 c3 c4 c5 c6 c7 hm fun h₂ tk₂ m₂ F₂ => ?_
    · simp only [depth_caller]; decide
    · simp only [units_caller]; decide
    · k_steps
theorem PySem.Challenge.cw_lo0042_01_holds : PySem.Challenge.rw_lo0042_01.Holds :=
  Mine.fin
