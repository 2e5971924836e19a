import PyProof.Rows.All
import Wide.All
import OpenK.AllK
import Wide.FinOn
import Open.Tops
import Lean
import PySem.Challenge.RW_vj0003_01
open PySem PySem.W PyProof.Rows
set_option Elab.async false
set_option maxRecDepth 100000
set_option maxHeartbeats 4000000
set_option linter.unusedVariables false
namespace Mine
set_option maxHeartbeats 8000000 in
open_shared tp for PySem.Challenge.pw_vj0003_01 leaving 0
set_option maxHeartbeats 8000000 in
open_top hd for PySem.Challenge.rw_vj0003_01
local macro_rules | `(tactic| walk_at "none") => `(tactic| fail)
section
example : True := by w_top off; trivial
open PySem.SeqAt

theorem slot_bytes_lt : Slot "bytes" (cmpInfo .Lt).2.1 "bytes.__lt__" :=
  .of (owner := "bytes") (n := "__lt__") (by rw [typeLookup_type, builtinLookup_eq_fast]; kernel_rfl) (by decide +kernel) (by decide +kernel) (by decide +kernel)
    (by first | exact .inl (by decide +kernel) | exact .inr (by decide +kernel)) (by rw [isSubtype_type]; kernel_rfl)
theorem entry_bytes_lt : entryFor table "bytes.__lt__" = some Builtin.«bytes.__lt__» := entryFor_of_tree (by kernel_rfl)
theorem args_bytes_lt_2 (a b : Value) : argsOk "bytes.__lt__" ⟨[a, b], []⟩ := by
  unfold argsOk; rw [signature?_of (id := "bytes.__lt__") (n := ['_', '_', 't', 'l', '_', '_']) (o := ['s', 'e', 't', 'y', 'b']) (by kernel_rfl) FB.owner_bytes]; kernel_rfl
theorem slot_bytes_gt : Slot "bytes" (cmpInfo .Gt).2.1 "bytes.__gt__" :=
  .of (owner := "bytes") (n := "__gt__") (by rw [typeLookup_type, builtinLookup_eq_fast]; kernel_rfl) (by decide +kernel) (by decide +kernel) (by decide +kernel)
    (by first | exact .inl (by decide +kernel) | exact .inr (by decide +kernel)) (by rw [isSubtype_type]; kernel_rfl)
theorem entry_bytes_gt : entryFor table "bytes.__gt__" = some Builtin.«bytes.__gt__» := entryFor_of_tree (by kernel_rfl)
theorem args_bytes_gt_2 (a b : Value) : argsOk "bytes.__gt__" ⟨[a, b], []⟩ := by
  unfold argsOk; rw [signature?_of (id := "bytes.__gt__") (n := ['_', '_', 't', 'g', '_', '_']) (o := ['s', 'e', 't', 'y', 'b']) (by kernel_rfl) FB.owner_bytes]; kernel_rfl
theorem slot_bytes_ge : Slot "bytes" (cmpInfo .GtE).2.1 "bytes.__ge__" :=
  .of (owner := "bytes") (n := "__ge__") (by rw [typeLookup_type, builtinLookup_eq_fast]; kernel_rfl) (by decide +kernel) (by decide +kernel) (by decide +kernel)
    (by first | exact .inl (by decide +kernel) | exact .inr (by decide +kernel)) (by rw [isSubtype_type]; kernel_rfl)
theorem entry_bytes_ge : entryFor table "bytes.__ge__" = some Builtin.«bytes.__ge__» := entryFor_of_tree (by kernel_rfl)
theorem args_bytes_ge_2 (a b : Value) : argsOk "bytes.__ge__" ⟨[a, b], []⟩ := by
  unfold argsOk; rw [signature?_of (id := "bytes.__ge__") (n := ['_', '_', 'e', 'g', '_', '_']) (o := ['s', 'e', 't', 'y', 'b']) (by kernel_rfl) FB.owner_bytes]; kernel_rfl
theorem slot_bytes_le : Slot "bytes" (cmpInfo .LtE).2.1 "bytes.__le__" :=
  .of (owner := "bytes") (n := "__le__") (by rw [typeLookup_type, builtinLookup_eq_fast]; kernel_rfl) (by decide +kernel) (by decide +kernel) (by decide +kernel)
    (by first | exact .inl (by decide +kernel) | exact .inr (by decide +kernel)) (by rw [isSubtype_type]; kernel_rfl)
theorem entry_bytes_le : entryFor table "bytes.__le__" = some Builtin.«bytes.__le__» := entryFor_of_tree (by kernel_rfl)
theorem args_bytes_le_2 (a b : Value) : argsOk "bytes.__le__" ⟨[a, b], []⟩ := by
  unfold argsOk; rw [signature?_of (id := "bytes.__le__") (n := ['_', '_', 'e', 'l', '_', '_']) (o := ['s', 'e', 't', 'y', 'b']) (by kernel_rfl) FB.owner_bytes]; kernel_rfl
theorem slot_bytes_gt_refl : Slot "bytes" (cmpInfo .Lt).2.2 "bytes.__gt__" :=
  .of (owner := "bytes") (n := "__gt__") (by rw [typeLookup_type, builtinLookup_eq_fast]; kernel_rfl) (by decide +kernel) (by decide +kernel) (by decide +kernel)
    (by first | exact .inl (by decide +kernel) | exact .inr (by decide +kernel)) (by rw [isSubtype_type]; kernel_rfl)
theorem slot_bytes_le_refl : Slot "bytes" (cmpInfo .GtE).2.2 "bytes.__le__" :=
  .of (owner := "bytes") (n := "__le__") (by rw [typeLookup_type, builtinLookup_eq_fast]; kernel_rfl) (by decide +kernel) (by decide +kernel) (by decide +kernel)
    (by first | exact .inl (by decide +kernel) | exact .inr (by decide +kernel)) (by rw [isSubtype_type]; kernel_rfl)
theorem slot_bytes_eq_refl : Slot "bytes" (cmpInfo .Eq).2.2 "bytes.__eq__" :=
  .of (owner := "bytes") (n := "__eq__") (by rw [typeLookup_type, builtinLookup_eq_fast]; kernel_rfl) (by decide +kernel) (by decide +kernel) (by decide +kernel)
    (by first | exact .inl (by decide +kernel) | exact .inr (by decide +kernel)) (by rw [isSubtype_type]; kernel_rfl)
theorem slot_bytes_ne_refl : Slot "bytes" (cmpInfo .NotEq).2.2 "bytes.__ne__" :=
  .of (owner := "bytes") (n := "__ne__") (by rw [typeLookup_type, builtinLookup_eq_fast]; kernel_rfl) (by decide +kernel) (by decide +kernel) (by decide +kernel)
    (by first | exact .inl (by decide +kernel) | exact .inr (by decide +kernel)) (by rw [isSubtype_type]; kernel_rfl)
theorem dcl_I_lt_S (a : Int) (aq : Tok) (b : Str) (bq : Tok) : Gives (Builtin.«int.__lt__» ⟨[.int a aq, .str b bq], []⟩) (.val (Value.notImplemented)) :=
  .of_wp fun M A E s Q h => by
    obtain ⟨hp, g, d, tk, os⟩ := s; wp_walk; exact ⟨_, rfl, h⟩
theorem dcl_S_gt_I (a : Str) (aq : Tok) (b : Int) (bq : Tok) : Gives (Builtin.«str.__gt__» ⟨[.str a aq, .int b bq], []⟩) (.val (Value.notImplemented)) :=
  .of_wp fun M A E s Q h => by
    obtain ⟨hp, g, d, tk, os⟩ := s; wp_walk; exact ⟨_, rfl, h⟩
theorem dcl_I_ge_S (a : Int) (aq : Tok) (b : Str) (bq : Tok) : Gives (Builtin.«int.__ge__» ⟨[.int a aq, .str b bq], []⟩) (.val (Value.notImplemented)) :=
  .of_wp fun M A E s Q h => by
    obtain ⟨hp, g, d, tk, os⟩ := s; wp_walk; exact ⟨_, rfl, h⟩
theorem dcl_S_le_I (a : Str) (aq : Tok) (b : Int) (bq : Tok) : Gives (Builtin.«str.__le__» ⟨[.str a aq, .int b bq], []⟩) (.val (Value.notImplemented)) :=
  .of_wp fun M A E s Q h => by
    obtain ⟨hp, g, d, tk, os⟩ := s; wp_walk; exact ⟨_, rfl, h⟩
theorem dcl_I_lt_B (a : Int) (aq : Tok) (b : Array UInt8) (bq : Tok) : Gives (Builtin.«int.__lt__» ⟨[.int a aq, .bytes b bq], []⟩) (.val (Value.notImplemented)) :=
  .of_wp fun M A E s Q h => by
    obtain ⟨hp, g, d, tk, os⟩ := s; wp_walk; exact ⟨_, rfl, h⟩
theorem dcl_B_gt_I (a : Array UInt8) (aq : Tok) (b : Int) (bq : Tok) : Gives (Builtin.«bytes.__gt__» ⟨[.bytes a aq, .int b bq], []⟩) (.val (Value.notImplemented)) :=
  .of_wp fun M A E s Q h => by
    have hf : isSubtype (.type "int") (.type "bytes") = pure false := by rw [isSubtype_type]; kernel_rfl
    show wpAny M A (isInstance (.int b bq) (.type "bytes") >>= fun r => _) _ E s
    refine wpAny_bind (wpAny_isInstance (typeIs_int s b bq) hf ?_)
    refine wpAny_bind (wpAny_isInstance (typeIs_int s b bq) hf ?_)
    exact wpAny_bind (wpAny_rule (wpAny_pure ⟨_, rfl, h⟩))
theorem dcl_I_ge_B (a : Int) (aq : Tok) (b : Array UInt8) (bq : Tok) : Gives (Builtin.«int.__ge__» ⟨[.int a aq, .bytes b bq], []⟩) (.val (Value.notImplemented)) :=
  .of_wp fun M A E s Q h => by
    obtain ⟨hp, g, d, tk, os⟩ := s; wp_walk; exact ⟨_, rfl, h⟩
theorem dcl_B_le_I (a : Array UInt8) (aq : Tok) (b : Int) (bq : Tok) : Gives (Builtin.«bytes.__le__» ⟨[.bytes a aq, .int b bq], []⟩) (.val (Value.notImplemented)) :=
  .of_wp fun M A E s Q h => by
    have hf : isSubtype (.type "int") (.type "bytes") = pure false := by rw [isSubtype_type]; kernel_rfl
    show wpAny M A (isInstance (.int b bq) (.type "bytes") >>= fun r => _) _ E s
    refine wpAny_bind (wpAny_isInstance (typeIs_int s b bq) hf ?_)
    refine wpAny_bind (wpAny_isInstance (typeIs_int s b bq) hf ?_)
    exact wpAny_bind (wpAny_rule (wpAny_pure ⟨_, rfl, h⟩))
theorem dcl_I_eq_B (a : Int) (aq : Tok) (b : Array UInt8) (bq : Tok) : Gives (Builtin.«int.__eq__» ⟨[.int a aq, .bytes b bq], []⟩) (.val (Value.notImplemented)) :=
  .of_wp fun M A E s Q h => by
    obtain ⟨hp, g, d, tk, os⟩ := s; wp_walk; exact ⟨_, rfl, h⟩
theorem dcl_B_eq_I (a : Array UInt8) (aq : Tok) (b : Int) (bq : Tok) : Gives (Builtin.«bytes.__eq__» ⟨[.bytes a aq, .int b bq], []⟩) (.val (Value.notImplemented)) :=
  .of_wp fun M A E s Q h => by
    have hf : isSubtype (.type "int") (.type "bytes") = pure false := by rw [isSubtype_type]; kernel_rfl
    show wpAny M A (isInstance (.int b bq) (.type "bytes") >>= fun r => _) _ E s
    refine wpAny_bind (wpAny_isInstance (typeIs_int s b bq) hf ?_)
    refine wpAny_bind (wpAny_isInstance (typeIs_int s b bq) hf ?_)
    exact wpAny_bind (wpAny_rule (wpAny_pure ⟨_, rfl, h⟩))
theorem dcl_I_ne_B (a : Int) (aq : Tok) (b : Array UInt8) (bq : Tok) : Gives (Builtin.«int.__ne__» ⟨[.int a aq, .bytes b bq], []⟩) (.val (Value.notImplemented)) :=
  .of_wp fun M A E s Q h => by
    obtain ⟨hp, g, d, tk, os⟩ := s; wp_walk; exact ⟨_, rfl, h⟩
theorem dcl_B_ne_I (a : Array UInt8) (aq : Tok) (b : Int) (bq : Tok) : Gives (Builtin.«bytes.__ne__» ⟨[.bytes a aq, .int b bq], []⟩) (.val (Value.notImplemented)) :=
  .of_wp fun M A E s Q h => by
    have hf : isSubtype (.type "int") (.type "bytes") = pure false := by rw [isSubtype_type]; kernel_rfl
    show wpAny M A (isInstance (.int b bq) (.type "bytes") >>= fun r => _) _ E s
    refine wpAny_bind (wpAny_isInstance (typeIs_int s b bq) hf ?_)
    refine wpAny_bind (wpAny_isInstance (typeIs_int s b bq) hf ?_)
    exact wpAny_bind (wpAny_rule (wpAny_pure ⟨_, rfl, h⟩))
theorem dcl_I_lt_N (a : Int) (aq : Tok)  : Gives (Builtin.«int.__lt__» ⟨[.int a aq, .none], []⟩) (.val (Value.notImplemented)) :=
  .of_wp fun M A E s Q h => by
    obtain ⟨hp, g, d, tk, os⟩ := s; wp_walk; exact ⟨_, rfl, h⟩
theorem dcl_N_gt_I  (b : Int) (bq : Tok) : Gives (Builtin.«NoneType.__gt__» ⟨[.none, .int b bq], []⟩) (.val (Value.notImplemented)) :=
  .of_wp fun M A E s Q h => by
    obtain ⟨hp, g, d, tk, os⟩ := s; wp_walk; exact ⟨_, rfl, h⟩
theorem dcl_I_ge_N (a : Int) (aq : Tok)  : Gives (Builtin.«int.__ge__» ⟨[.int a aq, .none], []⟩) (.val (Value.notImplemented)) :=
  .of_wp fun M A E s Q h => by
    obtain ⟨hp, g, d, tk, os⟩ := s; wp_walk; exact ⟨_, rfl, h⟩
theorem dcl_N_le_I  (b : Int) (bq : Tok) : Gives (Builtin.«NoneType.__le__» ⟨[.none, .int b bq], []⟩) (.val (Value.notImplemented)) :=
  .of_wp fun M A E s Q h => by
    obtain ⟨hp, g, d, tk, os⟩ := s; wp_walk; exact ⟨_, rfl, h⟩
theorem dcl_S_lt_I (a : Str) (aq : Tok) (b : Int) (bq : Tok) : Gives (Builtin.«str.__lt__» ⟨[.str a aq, .int b bq], []⟩) (.val (Value.notImplemented)) :=
  .of_wp fun M A E s Q h => by
    obtain ⟨hp, g, d, tk, os⟩ := s; wp_walk; exact ⟨_, rfl, h⟩
theorem dcl_I_gt_S (a : Int) (aq : Tok) (b : Str) (bq : Tok) : Gives (Builtin.«int.__gt__» ⟨[.int a aq, .str b bq], []⟩) (.val (Value.notImplemented)) :=
  .of_wp fun M A E s Q h => by
    obtain ⟨hp, g, d, tk, os⟩ := s; wp_walk; exact ⟨_, rfl, h⟩
theorem dcl_S_ge_I (a : Str) (aq : Tok) (b : Int) (bq : Tok) : Gives (Builtin.«str.__ge__» ⟨[.str a aq, .int b bq], []⟩) (.val (Value.notImplemented)) :=
  .of_wp fun M A E s Q h => by
    obtain ⟨hp, g, d, tk, os⟩ := s; wp_walk; exact ⟨_, rfl, h⟩
theorem dcl_I_le_S (a : Int) (aq : Tok) (b : Str) (bq : Tok) : Gives (Builtin.«int.__le__» ⟨[.int a aq, .str b bq], []⟩) (.val (Value.notImplemented)) :=
  .of_wp fun M A E s Q h => by
    obtain ⟨hp, g, d, tk, os⟩ := s; wp_walk; exact ⟨_, rfl, h⟩
theorem dcl_S_lt_B (a : Str) (aq : Tok) (b : Array UInt8) (bq : Tok) : Gives (Builtin.«str.__lt__» ⟨[.str a aq, .bytes b bq], []⟩) (.val (Value.notImplemented)) :=
  .of_wp fun M A E s Q h => by
    obtain ⟨hp, g, d, tk, os⟩ := s; wp_walk; exact ⟨_, rfl, h⟩
theorem dcl_B_gt_S (a : Array UInt8) (aq : Tok) (b : Str) (bq : Tok) : Gives (Builtin.«bytes.__gt__» ⟨[.bytes a aq, .str b bq], []⟩) (.val (Value.notImplemented)) :=
  .of_wp fun M A E s Q h => by
    have hf : isSubtype (.type "str") (.type "bytes") = pure false := by rw [isSubtype_type]; kernel_rfl
    show wpAny M A (isInstance (.str b bq) (.type "bytes") >>= fun r => _) _ E s
    refine wpAny_bind (wpAny_isInstance (typeIs_str s b bq) hf ?_)
    refine wpAny_bind (wpAny_isInstance (typeIs_str s b bq) hf ?_)
    exact wpAny_bind (wpAny_rule (wpAny_pure ⟨_, rfl, h⟩))
theorem dcl_S_ge_B (a : Str) (aq : Tok) (b : Array UInt8) (bq : Tok) : Gives (Builtin.«str.__ge__» ⟨[.str a aq, .bytes b bq], []⟩) (.val (Value.notImplemented)) :=
  .of_wp fun M A E s Q h => by
    obtain ⟨hp, g, d, tk, os⟩ := s; wp_walk; exact ⟨_, rfl, h⟩
theorem dcl_B_le_S (a : Array UInt8) (aq : Tok) (b : Str) (bq : Tok) : Gives (Builtin.«bytes.__le__» ⟨[.bytes a aq, .str b bq], []⟩) (.val (Value.notImplemented)) :=
  .of_wp fun M A E s Q h => by
    have hf : isSubtype (.type "str") (.type "bytes") = pure false := by rw [isSubtype_type]; kernel_rfl
    show wpAny M A (isInstance (.str b bq) (.type "bytes") >>= fun r => _) _ E s
    refine wpAny_bind (wpAny_isInstance (typeIs_str s b bq) hf ?_)
    refine wpAny_bind (wpAny_isInstance (typeIs_str s b bq) hf ?_)
    exact wpAny_bind (wpAny_rule (wpAny_pure ⟨_, rfl, h⟩))
theorem dcl_S_eq_B (a : Str) (aq : Tok) (b : Array UInt8) (bq : Tok) : Gives (Builtin.«str.__eq__» ⟨[.str a aq, .bytes b bq], []⟩) (.val (Value.notImplemented)) :=
  .of_wp fun M A E s Q h => by
    obtain ⟨hp, g, d, tk, os⟩ := s; wp_walk; exact ⟨_, rfl, h⟩
theorem dcl_B_eq_S (a : Array UInt8) (aq : Tok) (b : Str) (bq : Tok) : Gives (Builtin.«bytes.__eq__» ⟨[.bytes a aq, .str b bq], []⟩) (.val (Value.notImplemented)) :=
  .of_wp fun M A E s Q h => by
    have hf : isSubtype (.type "str") (.type "bytes") = pure false := by rw [isSubtype_type]; kernel_rfl
    show wpAny M A (isInstance (.str b bq) (.type "bytes") >>= fun r => _) _ E s
    refine wpAny_bind (wpAny_isInstance (typeIs_str s b bq) hf ?_)
    refine wpAny_bind (wpAny_isInstance (typeIs_str s b bq) hf ?_)
    exact wpAny_bind (wpAny_rule (wpAny_pure ⟨_, rfl, h⟩))
theorem dcl_S_ne_B (a : Str) (aq : Tok) (b : Array UInt8) (bq : Tok) : Gives (Builtin.«str.__ne__» ⟨[.str a aq, .bytes b bq], []⟩) (.val (Value.notImplemented)) :=
  .of_wp fun M A E s Q h => by
    obtain ⟨hp, g, d, tk, os⟩ := s; wp_walk; exact ⟨_, rfl, h⟩
theorem dcl_B_ne_S (a : Array UInt8) (aq : Tok) (b : Str) (bq : Tok) : Gives (Builtin.«bytes.__ne__» ⟨[.bytes a aq, .str b bq], []⟩) (.val (Value.notImplemented)) :=
  .of_wp fun M A E s Q h => by
    have hf : isSubtype (.type "str") (.type "bytes") = pure false := by rw [isSubtype_type]; kernel_rfl
    show wpAny M A (isInstance (.str b bq) (.type "bytes") >>= fun r => _) _ E s
    refine wpAny_bind (wpAny_isInstance (typeIs_str s b bq) hf ?_)
    refine wpAny_bind (wpAny_isInstance (typeIs_str s b bq) hf ?_)
    exact wpAny_bind (wpAny_rule (wpAny_pure ⟨_, rfl, h⟩))
theorem dcl_S_lt_N (a : Str) (aq : Tok)  : Gives (Builtin.«str.__lt__» ⟨[.str a aq, .none], []⟩) (.val (Value.notImplemented)) :=
  .of_wp fun M A E s Q h => by
    obtain ⟨hp, g, d, tk, os⟩ := s; wp_walk; exact ⟨_, rfl, h⟩
theorem dcl_N_gt_S  (b : Str) (bq : Tok) : Gives (Builtin.«NoneType.__gt__» ⟨[.none, .str b bq], []⟩) (.val (Value.notImplemented)) :=
  .of_wp fun M A E s Q h => by
    obtain ⟨hp, g, d, tk, os⟩ := s; wp_walk; exact ⟨_, rfl, h⟩
theorem dcl_S_ge_N (a : Str) (aq : Tok)  : Gives (Builtin.«str.__ge__» ⟨[.str a aq, .none], []⟩) (.val (Value.notImplemented)) :=
  .of_wp fun M A E s Q h => by
    obtain ⟨hp, g, d, tk, os⟩ := s; wp_walk; exact ⟨_, rfl, h⟩
theorem dcl_N_le_S  (b : Str) (bq : Tok) : Gives (Builtin.«NoneType.__le__» ⟨[.none, .str b bq], []⟩) (.val (Value.notImplemented)) :=
  .of_wp fun M A E s Q h => by
    obtain ⟨hp, g, d, tk, os⟩ := s; wp_walk; exact ⟨_, rfl, h⟩
theorem dcl_B_lt_I (a : Array UInt8) (aq : Tok) (b : Int) (bq : Tok) : Gives (Builtin.«bytes.__lt__» ⟨[.bytes a aq, .int b bq], []⟩) (.val (Value.notImplemented)) :=
  .of_wp fun M A E s Q h => by
    have hf : isSubtype (.type "int") (.type "bytes") = pure false := by rw [isSubtype_type]; kernel_rfl
    show wpAny M A (isInstance (.int b bq) (.type "bytes") >>= fun r => _) _ E s
    refine wpAny_bind (wpAny_isInstance (typeIs_int s b bq) hf ?_)
    refine wpAny_bind (wpAny_isInstance (typeIs_int s b bq) hf ?_)
    exact wpAny_bind (wpAny_rule (wpAny_pure ⟨_, rfl, h⟩))
theorem dcl_I_gt_B (a : Int) (aq : Tok) (b : Array UInt8) (bq : Tok) : Gives (Builtin.«int.__gt__» ⟨[.int a aq, .bytes b bq], []⟩) (.val (Value.notImplemented)) :=
  .of_wp fun M A E s Q h => by
    obtain ⟨hp, g, d, tk, os⟩ := s; wp_walk; exact ⟨_, rfl, h⟩
theorem dcl_B_ge_I (a : Array UInt8) (aq : Tok) (b : Int) (bq : Tok) : Gives (Builtin.«bytes.__ge__» ⟨[.bytes a aq, .int b bq], []⟩) (.val (Value.notImplemented)) :=
  .of_wp fun M A E s Q h => by
    have hf : isSubtype (.type "int") (.type "bytes") = pure false := by rw [isSubtype_type]; kernel_rfl
    show wpAny M A (isInstance (.int b bq) (.type "bytes") >>= fun r => _) _ E s
    refine wpAny_bind (wpAny_isInstance (typeIs_int s b bq) hf ?_)
    refine wpAny_bind (wpAny_isInstance (typeIs_int s b bq) hf ?_)
    exact wpAny_bind (wpAny_rule (wpAny_pure ⟨_, rfl, h⟩))
theorem dcl_I_le_B (a : Int) (aq : Tok) (b : Array UInt8) (bq : Tok) : Gives (Builtin.«int.__le__» ⟨[.int a aq, .bytes b bq], []⟩) (.val (Value.notImplemented)) :=
  .of_wp fun M A E s Q h => by
    obtain ⟨hp, g, d, tk, os⟩ := s; wp_walk; exact ⟨_, rfl, h⟩
theorem dcl_B_lt_S (a : Array UInt8) (aq : Tok) (b : Str) (bq : Tok) : Gives (Builtin.«bytes.__lt__» ⟨[.bytes a aq, .str b bq], []⟩) (.val (Value.notImplemented)) :=
  .of_wp fun M A E s Q h => by
    have hf : isSubtype (.type "str") (.type "bytes") = pure false := by rw [isSubtype_type]; kernel_rfl
    show wpAny M A (isInstance (.str b bq) (.type "bytes") >>= fun r => _) _ E s
    refine wpAny_bind (wpAny_isInstance (typeIs_str s b bq) hf ?_)
    refine wpAny_bind (wpAny_isInstance (typeIs_str s b bq) hf ?_)
    exact wpAny_bind (wpAny_rule (wpAny_pure ⟨_, rfl, h⟩))
theorem dcl_S_gt_B (a : Str) (aq : Tok) (b : Array UInt8) (bq : Tok) : Gives (Builtin.«str.__gt__» ⟨[.str a aq, .bytes b bq], []⟩) (.val (Value.notImplemented)) :=
  .of_wp fun M A E s Q h => by
    obtain ⟨hp, g, d, tk, os⟩ := s; wp_walk; exact ⟨_, rfl, h⟩
theorem dcl_B_ge_S (a : Array UInt8) (aq : Tok) (b : Str) (bq : Tok) : Gives (Builtin.«bytes.__ge__» ⟨[.bytes a aq, .str b bq], []⟩) (.val (Value.notImplemented)) :=
  .of_wp fun M A E s Q h => by
    have hf : isSubtype (.type "str") (.type "bytes") = pure false := by rw [isSubtype_type]; kernel_rfl
    show wpAny M A (isInstance (.str b bq) (.type "bytes") >>= fun r => _) _ E s
    refine wpAny_bind (wpAny_isInstance (typeIs_str s b bq) hf ?_)
    refine wpAny_bind (wpAny_isInstance (typeIs_str s b bq) hf ?_)
    exact wpAny_bind (wpAny_rule (wpAny_pure ⟨_, rfl, h⟩))
theorem dcl_S_le_B (a : Str) (aq : Tok) (b : Array UInt8) (bq : Tok) : Gives (Builtin.«str.__le__» ⟨[.str a aq, .bytes b bq], []⟩) (.val (Value.notImplemented)) :=
  .of_wp fun M A E s Q h => by
    obtain ⟨hp, g, d, tk, os⟩ := s; wp_walk; exact ⟨_, rfl, h⟩
theorem dcl_B_lt_N (a : Array UInt8) (aq : Tok)  : Gives (Builtin.«bytes.__lt__» ⟨[.bytes a aq, .none], []⟩) (.val (Value.notImplemented)) :=
  .of_wp fun M A E s Q h => by
    have hf : isSubtype (.type "NoneType") (.type "bytes") = pure false := by rw [isSubtype_type]; kernel_rfl
    show wpAny M A (isInstance (.none) (.type "bytes") >>= fun r => _) _ E s
    refine wpAny_bind (wpAny_isInstance rfl hf ?_)
    refine wpAny_bind (wpAny_isInstance rfl hf ?_)
    exact wpAny_bind (wpAny_rule (wpAny_pure ⟨_, rfl, h⟩))
theorem dcl_N_gt_B  (b : Array UInt8) (bq : Tok) : Gives (Builtin.«NoneType.__gt__» ⟨[.none, .bytes b bq], []⟩) (.val (Value.notImplemented)) :=
  .of_wp fun M A E s Q h => by
    obtain ⟨hp, g, d, tk, os⟩ := s; wp_walk; exact ⟨_, rfl, h⟩
theorem dcl_B_ge_N (a : Array UInt8) (aq : Tok)  : Gives (Builtin.«bytes.__ge__» ⟨[.bytes a aq, .none], []⟩) (.val (Value.notImplemented)) :=
  .of_wp fun M A E s Q h => by
    have hf : isSubtype (.type "NoneType") (.type "bytes") = pure false := by rw [isSubtype_type]; kernel_rfl
    show wpAny M A (isInstance (.none) (.type "bytes") >>= fun r => _) _ E s
    refine wpAny_bind (wpAny_isInstance rfl hf ?_)
    refine wpAny_bind (wpAny_isInstance rfl hf ?_)
    exact wpAny_bind (wpAny_rule (wpAny_pure ⟨_, rfl, h⟩))
theorem dcl_N_le_B  (b : Array UInt8) (bq : Tok) : Gives (Builtin.«NoneType.__le__» ⟨[.none, .bytes b bq], []⟩) (.val (Value.notImplemented)) :=
  .of_wp fun M A E s Q h => by
    obtain ⟨hp, g, d, tk, os⟩ := s; wp_walk; exact ⟨_, rfl, h⟩
theorem dcl_B_eq_N (a : Array UInt8) (aq : Tok)  : Gives (Builtin.«bytes.__eq__» ⟨[.bytes a aq, .none], []⟩) (.val (Value.notImplemented)) :=
  .of_wp fun M A E s Q h => by
    have hf : isSubtype (.type "NoneType") (.type "bytes") = pure false := by rw [isSubtype_type]; kernel_rfl
    show wpAny M A (isInstance (.none) (.type "bytes") >>= fun r => _) _ E s
    refine wpAny_bind (wpAny_isInstance rfl hf ?_)
    refine wpAny_bind (wpAny_isInstance rfl hf ?_)
    exact wpAny_bind (wpAny_rule (wpAny_pure ⟨_, rfl, h⟩))
theorem dcl_N_eq_B  (b : Array UInt8) (bq : Tok) : Gives (Builtin.«NoneType.__eq__» ⟨[.none, .bytes b bq], []⟩) (.val (Value.notImplemented)) :=
  .of_wp fun M A E s Q h => by
    obtain ⟨hp, g, d, tk, os⟩ := s; wp_walk; exact ⟨_, rfl, h⟩
theorem dcl_B_ne_N (a : Array UInt8) (aq : Tok)  : Gives (Builtin.«bytes.__ne__» ⟨[.bytes a aq, .none], []⟩) (.val (Value.notImplemented)) :=
  .of_wp fun M A E s Q h => by
    have hf : isSubtype (.type "NoneType") (.type "bytes") = pure false := by rw [isSubtype_type]; kernel_rfl
    show wpAny M A (isInstance (.none) (.type "bytes") >>= fun r => _) _ E s
    refine wpAny_bind (wpAny_isInstance rfl hf ?_)
    refine wpAny_bind (wpAny_isInstance rfl hf ?_)
    exact wpAny_bind (wpAny_rule (wpAny_pure ⟨_, rfl, h⟩))
theorem dcl_N_ne_B  (b : Array UInt8) (bq : Tok) : Gives (Builtin.«NoneType.__ne__» ⟨[.none, .bytes b bq], []⟩) (.val (Value.notImplemented)) :=
  .of_wp fun M A E s Q h => by
    obtain ⟨hp, g, d, tk, os⟩ := s; wp_walk; exact ⟨_, rfl, h⟩
theorem dcl_N_lt_I  (b : Int) (bq : Tok) : Gives (Builtin.«NoneType.__lt__» ⟨[.none, .int b bq], []⟩) (.val (Value.notImplemented)) :=
  .of_wp fun M A E s Q h => by
    obtain ⟨hp, g, d, tk, os⟩ := s; wp_walk; exact ⟨_, rfl, h⟩
theorem dcl_I_gt_N (a : Int) (aq : Tok)  : Gives (Builtin.«int.__gt__» ⟨[.int a aq, .none], []⟩) (.val (Value.notImplemented)) :=
  .of_wp fun M A E s Q h => by
    obtain ⟨hp, g, d, tk, os⟩ := s; wp_walk; exact ⟨_, rfl, h⟩
theorem dcl_N_ge_I  (b : Int) (bq : Tok) : Gives (Builtin.«NoneType.__ge__» ⟨[.none, .int b bq], []⟩) (.val (Value.notImplemented)) :=
  .of_wp fun M A E s Q h => by
    obtain ⟨hp, g, d, tk, os⟩ := s; wp_walk; exact ⟨_, rfl, h⟩
theorem dcl_I_le_N (a : Int) (aq : Tok)  : Gives (Builtin.«int.__le__» ⟨[.int a aq, .none], []⟩) (.val (Value.notImplemented)) :=
  .of_wp fun M A E s Q h => by
    obtain ⟨hp, g, d, tk, os⟩ := s; wp_walk; exact ⟨_, rfl, h⟩
theorem dcl_N_lt_S  (b : Str) (bq : Tok) : Gives (Builtin.«NoneType.__lt__» ⟨[.none, .str b bq], []⟩) (.val (Value.notImplemented)) :=
  .of_wp fun M A E s Q h => by
    obtain ⟨hp, g, d, tk, os⟩ := s; wp_walk; exact ⟨_, rfl, h⟩
theorem dcl_S_gt_N (a : Str) (aq : Tok)  : Gives (Builtin.«str.__gt__» ⟨[.str a aq, .none], []⟩) (.val (Value.notImplemented)) :=
  .of_wp fun M A E s Q h => by
    obtain ⟨hp, g, d, tk, os⟩ := s; wp_walk; exact ⟨_, rfl, h⟩
theorem dcl_N_ge_S  (b : Str) (bq : Tok) : Gives (Builtin.«NoneType.__ge__» ⟨[.none, .str b bq], []⟩) (.val (Value.notImplemented)) :=
  .of_wp fun M A E s Q h => by
    obtain ⟨hp, g, d, tk, os⟩ := s; wp_walk; exact ⟨_, rfl, h⟩
theorem dcl_S_le_N (a : Str) (aq : Tok)  : Gives (Builtin.«str.__le__» ⟨[.str a aq, .none], []⟩) (.val (Value.notImplemented)) :=
  .of_wp fun M A E s Q h => by
    obtain ⟨hp, g, d, tk, os⟩ := s; wp_walk; exact ⟨_, rfl, h⟩
theorem dcl_N_lt_B  (b : Array UInt8) (bq : Tok) : Gives (Builtin.«NoneType.__lt__» ⟨[.none, .bytes b bq], []⟩) (.val (Value.notImplemented)) :=
  .of_wp fun M A E s Q h => by
    obtain ⟨hp, g, d, tk, os⟩ := s; wp_walk; exact ⟨_, rfl, h⟩
theorem dcl_B_gt_N (a : Array UInt8) (aq : Tok)  : Gives (Builtin.«bytes.__gt__» ⟨[.bytes a aq, .none], []⟩) (.val (Value.notImplemented)) :=
  .of_wp fun M A E s Q h => by
    have hf : isSubtype (.type "NoneType") (.type "bytes") = pure false := by rw [isSubtype_type]; kernel_rfl
    show wpAny M A (isInstance (.none) (.type "bytes") >>= fun r => _) _ E s
    refine wpAny_bind (wpAny_isInstance rfl hf ?_)
    refine wpAny_bind (wpAny_isInstance rfl hf ?_)
    exact wpAny_bind (wpAny_rule (wpAny_pure ⟨_, rfl, h⟩))
theorem dcl_N_ge_B  (b : Array UInt8) (bq : Tok) : Gives (Builtin.«NoneType.__ge__» ⟨[.none, .bytes b bq], []⟩) (.val (Value.notImplemented)) :=
  .of_wp fun M A E s Q h => by
    obtain ⟨hp, g, d, tk, os⟩ := s; wp_walk; exact ⟨_, rfl, h⟩
theorem dcl_B_le_N (a : Array UInt8) (aq : Tok)  : Gives (Builtin.«bytes.__le__» ⟨[.bytes a aq, .none], []⟩) (.val (Value.notImplemented)) :=
  .of_wp fun M A E s Q h => by
    have hf : isSubtype (.type "NoneType") (.type "bytes") = pure false := by rw [isSubtype_type]; kernel_rfl
    show wpAny M A (isInstance (.none) (.type "bytes") >>= fun r => _) _ E s
    refine wpAny_bind (wpAny_isInstance rfl hf ?_)
    refine wpAny_bind (wpAny_isInstance rfl hf ?_)
    exact wpAny_bind (wpAny_rule (wpAny_pure ⟨_, rfl, h⟩))
theorem dcl_N_lt_N   : Gives (Builtin.«NoneType.__lt__» ⟨[.none, .none], []⟩) (.val (Value.notImplemented)) :=
  .of_wp fun M A E s Q h => by
    obtain ⟨hp, g, d, tk, os⟩ := s; wp_walk; exact ⟨_, rfl, h⟩
theorem dcl_N_ge_N   : Gives (Builtin.«NoneType.__ge__» ⟨[.none, .none], []⟩) (.val (Value.notImplemented)) :=
  .of_wp fun M A E s Q h => by
    obtain ⟨hp, g, d, tk, os⟩ := s; wp_walk; exact ⟨_, rfl, h⟩
theorem dcl_N_gt_N   : Gives (Builtin.«NoneType.__gt__» ⟨[.none, .none], []⟩) (.val (Value.notImplemented)) :=
  .of_wp fun M A E s Q h => by
    obtain ⟨hp, g, d, tk, os⟩ := s; wp_walk; exact ⟨_, rfl, h⟩
theorem dcl_N_le_N   : Gives (Builtin.«NoneType.__le__» ⟨[.none, .none], []⟩) (.val (Value.notImplemented)) :=
  .of_wp fun M A E s Q h => by
    obtain ⟨hp, g, d, tk, os⟩ := s; wp_walk; exact ⟨_, rfl, h⟩
section
variable {A : Around} {s : Shared}
theorem rc_IB (a : Int) (aq : Tok) (b : Array UInt8) (bq : Tok) : RcAt A s (.int a aq) (.bytes b bq) false := fun prog w E Q h =>
  rc_eq_decline_or (k := false) (typeIs_int s a aq) (typeIs_bytes s b bq) (by decide) (by rw [isSubtype_type]; kernel_rfl) F.slot_int_eq slot_bytes_eq_refl
    (fun _ hq => call_gives F.slot_int_eq (typeIs_int s a aq) F.entry_int_eq (F.args_int_eq_2 _ _) (dcl_I_eq_B a aq b bq) hq)
    (fun _ hq => call_gives slot_bytes_eq_refl (typeIs_bytes s b bq) FB.entry_bytes_eq (FB.args_bytes_eq_2 _ _) (dcl_B_eq_I b bq a aq) hq)
    (fun _ hq => wpAny_of_eq (rfl : isSame (.int a aq) (.bytes b bq) = pure false) hq) (.inl rfl) h
theorem rcne_IB (a : Int) (aq : Tok) (b : Array UInt8) (bq : Tok) : RcNeAt A s (.int a aq) (.bytes b bq) true := fun prog w E Q h =>
  rc_ne_decline_or (k := false) (typeIs_int s a aq) (typeIs_bytes s b bq) (by decide) (by rw [isSubtype_type]; kernel_rfl) F.slot_int_ne slot_bytes_ne_refl
    (fun _ hq => call_gives F.slot_int_ne (typeIs_int s a aq) F.entry_int_ne (F.args_int_ne_2 _ _) (dcl_I_ne_B a aq b bq) hq)
    (fun _ hq => call_gives slot_bytes_ne_refl (typeIs_bytes s b bq) FB.entry_bytes_ne (FB.args_bytes_ne_2 _ _) (dcl_B_ne_I b bq a aq) hq)
    (fun _ hq => wpAny_of_eq (rfl : isSame (.int a aq) (.bytes b bq) = pure false) hq) (.inl rfl) h
theorem eqat_IB (a : Int) (aq : Tok) (b : Array UInt8) (bq : Tok) : EqAt A s (.int a aq) (.bytes b bq) false := fun prog w E Q h => by
  unfold eqBool
  refine wpAny_holding ?_
  refine wpAny_ite_split (fun hab => absurd (eq_of_beq hab) nofun) (fun _ => ?_)
  exact wpAny_bind (rc_IB a aq b bq prog w E _ (wpAny_truthy_bool h))
theorem rc_SB (a : Str) (aq : Tok) (b : Array UInt8) (bq : Tok) : RcAt A s (.str a aq) (.bytes b bq) false := fun prog w E Q h =>
  rc_eq_decline_or (k := false) (typeIs_str s a aq) (typeIs_bytes s b bq) (by decide) (by rw [isSubtype_type]; kernel_rfl) F.slot_str_eq slot_bytes_eq_refl
    (fun _ hq => call_gives F.slot_str_eq (typeIs_str s a aq) F.entry_str_eq (F.args_str_eq_2 _ _) (dcl_S_eq_B a aq b bq) hq)
    (fun _ hq => call_gives slot_bytes_eq_refl (typeIs_bytes s b bq) FB.entry_bytes_eq (FB.args_bytes_eq_2 _ _) (dcl_B_eq_S b bq a aq) hq)
    (fun _ hq => wpAny_of_eq (rfl : isSame (.str a aq) (.bytes b bq) = pure false) hq) (.inl rfl) h
theorem rcne_SB (a : Str) (aq : Tok) (b : Array UInt8) (bq : Tok) : RcNeAt A s (.str a aq) (.bytes b bq) true := fun prog w E Q h =>
  rc_ne_decline_or (k := false) (typeIs_str s a aq) (typeIs_bytes s b bq) (by decide) (by rw [isSubtype_type]; kernel_rfl) F.slot_str_ne slot_bytes_ne_refl
    (fun _ hq => call_gives F.slot_str_ne (typeIs_str s a aq) F.entry_str_ne (F.args_str_ne_2 _ _) (dcl_S_ne_B a aq b bq) hq)
    (fun _ hq => call_gives slot_bytes_ne_refl (typeIs_bytes s b bq) FB.entry_bytes_ne (FB.args_bytes_ne_2 _ _) (dcl_B_ne_S b bq a aq) hq)
    (fun _ hq => wpAny_of_eq (rfl : isSame (.str a aq) (.bytes b bq) = pure false) hq) (.inl rfl) h
theorem eqat_SB (a : Str) (aq : Tok) (b : Array UInt8) (bq : Tok) : EqAt A s (.str a aq) (.bytes b bq) false := fun prog w E Q h => by
  unfold eqBool
  refine wpAny_holding ?_
  refine wpAny_ite_split (fun hab => absurd (eq_of_beq hab) nofun) (fun _ => ?_)
  exact wpAny_bind (rc_SB a aq b bq prog w E _ (wpAny_truthy_bool h))
theorem rc_BI (a : Array UInt8) (aq : Tok) (b : Int) (bq : Tok) : RcAt A s (.bytes a aq) (.int b bq) false := fun prog w E Q h =>
  rc_eq_decline_or (k := false) (typeIs_bytes s a aq) (typeIs_int s b bq) (by decide) (by rw [isSubtype_type]; kernel_rfl) FB.slot_bytes_eq F.slot_int_eq_refl
    (fun _ hq => call_gives FB.slot_bytes_eq (typeIs_bytes s a aq) FB.entry_bytes_eq (FB.args_bytes_eq_2 _ _) (dcl_B_eq_I a aq b bq) hq)
    (fun _ hq => call_gives F.slot_int_eq_refl (typeIs_int s b bq) F.entry_int_eq (F.args_int_eq_2 _ _) (dcl_I_eq_B b bq a aq) hq)
    (fun _ hq => wpAny_of_eq (rfl : isSame (.bytes a aq) (.int b bq) = pure false) hq) (.inl rfl) h
theorem rcne_BI (a : Array UInt8) (aq : Tok) (b : Int) (bq : Tok) : RcNeAt A s (.bytes a aq) (.int b bq) true := fun prog w E Q h =>
  rc_ne_decline_or (k := false) (typeIs_bytes s a aq) (typeIs_int s b bq) (by decide) (by rw [isSubtype_type]; kernel_rfl) FB.slot_bytes_ne F.slot_int_ne_refl
    (fun _ hq => call_gives FB.slot_bytes_ne (typeIs_bytes s a aq) FB.entry_bytes_ne (FB.args_bytes_ne_2 _ _) (dcl_B_ne_I a aq b bq) hq)
    (fun _ hq => call_gives F.slot_int_ne_refl (typeIs_int s b bq) F.entry_int_ne (F.args_int_ne_2 _ _) (dcl_I_ne_B b bq a aq) hq)
    (fun _ hq => wpAny_of_eq (rfl : isSame (.bytes a aq) (.int b bq) = pure false) hq) (.inl rfl) h
theorem eqat_BI (a : Array UInt8) (aq : Tok) (b : Int) (bq : Tok) : EqAt A s (.bytes a aq) (.int b bq) false := fun prog w E Q h => by
  unfold eqBool
  refine wpAny_holding ?_
  refine wpAny_ite_split (fun hab => absurd (eq_of_beq hab) nofun) (fun _ => ?_)
  exact wpAny_bind (rc_BI a aq b bq prog w E _ (wpAny_truthy_bool h))
theorem rc_BS (a : Array UInt8) (aq : Tok) (b : Str) (bq : Tok) : RcAt A s (.bytes a aq) (.str b bq) false := fun prog w E Q h =>
  rc_eq_decline_or (k := false) (typeIs_bytes s a aq) (typeIs_str s b bq) (by decide) (by rw [isSubtype_type]; kernel_rfl) FB.slot_bytes_eq F.slot_str_eq_refl
    (fun _ hq => call_gives FB.slot_bytes_eq (typeIs_bytes s a aq) FB.entry_bytes_eq (FB.args_bytes_eq_2 _ _) (dcl_B_eq_S a aq b bq) hq)
    (fun _ hq => call_gives F.slot_str_eq_refl (typeIs_str s b bq) F.entry_str_eq (F.args_str_eq_2 _ _) (dcl_S_eq_B b bq a aq) hq)
    (fun _ hq => wpAny_of_eq (rfl : isSame (.bytes a aq) (.str b bq) = pure false) hq) (.inl rfl) h
theorem rcne_BS (a : Array UInt8) (aq : Tok) (b : Str) (bq : Tok) : RcNeAt A s (.bytes a aq) (.str b bq) true := fun prog w E Q h =>
  rc_ne_decline_or (k := false) (typeIs_bytes s a aq) (typeIs_str s b bq) (by decide) (by rw [isSubtype_type]; kernel_rfl) FB.slot_bytes_ne F.slot_str_ne_refl
    (fun _ hq => call_gives FB.slot_bytes_ne (typeIs_bytes s a aq) FB.entry_bytes_ne (FB.args_bytes_ne_2 _ _) (dcl_B_ne_S a aq b bq) hq)
    (fun _ hq => call_gives F.slot_str_ne_refl (typeIs_str s b bq) F.entry_str_ne (F.args_str_ne_2 _ _) (dcl_S_ne_B b bq a aq) hq)
    (fun _ hq => wpAny_of_eq (rfl : isSame (.bytes a aq) (.str b bq) = pure false) hq) (.inl rfl) h
theorem eqat_BS (a : Array UInt8) (aq : Tok) (b : Str) (bq : Tok) : EqAt A s (.bytes a aq) (.str b bq) false := fun prog w E Q h => by
  unfold eqBool
  refine wpAny_holding ?_
  refine wpAny_ite_split (fun hab => absurd (eq_of_beq hab) nofun) (fun _ => ?_)
  exact wpAny_bind (rc_BS a aq b bq prog w E _ (wpAny_truthy_bool h))
theorem rc_BN (a : Array UInt8) (aq : Tok)  : RcAt A s (.bytes a aq) (.none) false := fun prog w E Q h =>
  rc_eq_decline_or (k := false) (typeIs_bytes s a aq) rfl (by decide) (by rw [isSubtype_type]; kernel_rfl) FB.slot_bytes_eq F.slot_NoneType_eq_refl
    (fun _ hq => call_gives FB.slot_bytes_eq (typeIs_bytes s a aq) FB.entry_bytes_eq (FB.args_bytes_eq_2 _ _) (dcl_B_eq_N a aq ) hq)
    (fun _ hq => call_gives F.slot_NoneType_eq_refl rfl F.entry_NoneType_eq (F.args_NoneType_eq_2 _ _) (dcl_N_eq_B  a aq) hq)
    (fun _ hq => wpAny_of_eq (rfl : isSame (.bytes a aq) (.none) = pure false) hq) (.inl rfl) h
theorem rcne_BN (a : Array UInt8) (aq : Tok)  : RcNeAt A s (.bytes a aq) (.none) true := fun prog w E Q h =>
  rc_ne_decline_or (k := false) (typeIs_bytes s a aq) rfl (by decide) (by rw [isSubtype_type]; kernel_rfl) FB.slot_bytes_ne F.slot_NoneType_ne_refl
    (fun _ hq => call_gives FB.slot_bytes_ne (typeIs_bytes s a aq) FB.entry_bytes_ne (FB.args_bytes_ne_2 _ _) (dcl_B_ne_N a aq ) hq)
    (fun _ hq => call_gives F.slot_NoneType_ne_refl rfl F.entry_NoneType_ne (F.args_NoneType_ne_2 _ _) (dcl_N_ne_B  a aq) hq)
    (fun _ hq => wpAny_of_eq (rfl : isSame (.bytes a aq) (.none) = pure false) hq) (.inl rfl) h
theorem eqat_BN (a : Array UInt8) (aq : Tok)  : EqAt A s (.bytes a aq) (.none) false := fun prog w E Q h => by
  unfold eqBool
  refine wpAny_holding ?_
  refine wpAny_ite_split (fun hab => absurd (eq_of_beq hab) nofun) (fun _ => ?_)
  exact wpAny_bind (rc_BN a aq  prog w E _ (wpAny_truthy_bool h))
theorem rc_NB  (b : Array UInt8) (bq : Tok) : RcAt A s (.none) (.bytes b bq) false := fun prog w E Q h =>
  rc_eq_decline_or (k := false) rfl (typeIs_bytes s b bq) (by decide) (by rw [isSubtype_type]; kernel_rfl) F.slot_NoneType_eq slot_bytes_eq_refl
    (fun _ hq => call_gives F.slot_NoneType_eq rfl F.entry_NoneType_eq (F.args_NoneType_eq_2 _ _) (dcl_N_eq_B  b bq) hq)
    (fun _ hq => call_gives slot_bytes_eq_refl (typeIs_bytes s b bq) FB.entry_bytes_eq (FB.args_bytes_eq_2 _ _) (dcl_B_eq_N b bq ) hq)
    (fun _ hq => wpAny_of_eq (rfl : isSame (.none) (.bytes b bq) = pure false) hq) (.inl rfl) h
theorem rcne_NB  (b : Array UInt8) (bq : Tok) : RcNeAt A s (.none) (.bytes b bq) true := fun prog w E Q h =>
  rc_ne_decline_or (k := false) rfl (typeIs_bytes s b bq) (by decide) (by rw [isSubtype_type]; kernel_rfl) F.slot_NoneType_ne slot_bytes_ne_refl
    (fun _ hq => call_gives F.slot_NoneType_ne rfl F.entry_NoneType_ne (F.args_NoneType_ne_2 _ _) (dcl_N_ne_B  b bq) hq)
    (fun _ hq => call_gives slot_bytes_ne_refl (typeIs_bytes s b bq) FB.entry_bytes_ne (FB.args_bytes_ne_2 _ _) (dcl_B_ne_N b bq ) hq)
    (fun _ hq => wpAny_of_eq (rfl : isSame (.none) (.bytes b bq) = pure false) hq) (.inl rfl) h
theorem eqat_NB  (b : Array UInt8) (bq : Tok) : EqAt A s (.none) (.bytes b bq) false := fun prog w E Q h => by
  unfold eqBool
  refine wpAny_holding ?_
  refine wpAny_ite_split (fun hab => absurd (eq_of_beq hab) nofun) (fun _ => ?_)
  exact wpAny_bind (rc_NB  b bq prog w E _ (wpAny_truthy_bool h))
end
end
section
example : True := by w_top off; trivial
open PySem.SeqAt

/-- the machine's exception under way, when one is handled: its context is empty -/
def HandOk (A : Around) (h : Heap) : Prop :=
  A.handled = none ∨ ∃ e₀ o₀ vs₀, A.handled = some (.ref e₀) ∧ h.get? e₀ = some o₀ ∧ o₀.data = .fields vs₀ ∧ vs₀[2]? = some .none

structure NewX (hd : Option Value) (h h' : Heap) (e : Addr) (cls : String) : Prop where
  keeps : ∀ b o, h.get? b = some o → h'.get? b = some o
  new : h.get? e = none
  there : ∃ ob t, h'.get? e = some ob ∧ ob.cls = .type cls ∧ ob.data = .fields #[t, .none, hd.getD .none, .none, .bool false, .none]

theorem NewX.of {h h' : Heap} {e : Addr} {cls : String} (x : Heap.NewExc h h' e cls) : NewX none h h' e cls :=
  ⟨x.keeps, x.new, let ⟨ob, t, a, b, c⟩ := x.there; ⟨ob, t, a, b, c⟩⟩

theorem plain_unchain : plainId "proto.unchain" = true := by decide +kernel
theorem entry_unchain : entryFor table "proto.unchain" = some Builtin.«proto.unchain» := entryFor_of_tree (by kernel_rfl)

section
variable {prog : Program} {w : World} {A : Around} {E : Value → Shared → Prop} {s : Shared}

theorem unchain_none {e e₀ : Addr} {o₀ : Obj} {vs₀ : Array Value} {Q : Value → Shared → Prop} (ho : s.heap.get? e₀ = some o₀) (hd : o₀.data = .fields vs₀) (h2 : vs₀[2]? = some .none) (h : Q .none s) :
    wpAny (model prog w) A (runValue (.builtin "proto.unchain" ⟨[.ref e, .ref e₀, .ref e₀, .bool false], []⟩)) Q E s := by
  refine wpAny_runValue (codeAny_builtin entry_unchain ?_)
  unfold Builtin.«proto.unchain»
  refine wpAny_bind (m := field (.ref e₀) 2) (wpAny_field ho hd h2 ?_)
  rw [if_pos (by decide)]
  exact wpAny_pure (a := Fin.done (.ret .none)) h

theorem raise_te {α : Type} {msg : String} {Q : α → Shared → Prop} (hh : HandOk A s.heap)
    (k : ∀ h' tk e, NewX A.handled s.heap h' e "TypeError" → E (.ref e) { s with heap := h', toks := tk }) (hm : (msg : Str).length ≤ sizeLine) :
    wpAny (model prog w) A (raiseError "TypeError" msg : Sem α) Q E s := by
  rcases hh with hh | ⟨e₀, o₀, vs₀, hh, he₀, hd₀, h2⟩
  · exact wpAny_raiseTypeError hh (fun h' tk e x => k h' tk e (hh ▸ .of x)) hm
  · unfold raiseErrorMade
    refine wpAny_bind (wpAny_mkStr (wpAny_bind ?_) hm)
    unfold newExc newTuple
    refine wpAny_bind (wpAny_newObj_type ?_)
    refine wpAny_bind (m := firstArgMember _ _) (wpAny_of_eq (a := Value.none) (by simp only [firstArgMember, typeError_no_first]; rfl) ?_)
    rw [ownMembersOf_TypeError]
    refine wpAny_newObj_type ?_
    unfold raiseNew
    refine wpAny_bind (wpAny_handled ?_)
    rw [hh]
    have l0 := Heap.lt_size he₀
    have hne : (Value.ref e₀ != Value.ref (s.heap.push { cls := Value.type "tuple", data := Data.seq [Value.str (Str.ofString msg) s.toks].toArray }).objs.size) = true := by
      rw [bne_iff_ne]
      intro q
      have q' := Value.ref.inj q
      rw [Heap.size_push] at q'
      exact absurd q' (Nat.ne_of_lt (Nat.lt_succ_of_lt l0))
    show wpAny _ _ (if (Value.ref e₀ != Value.ref _) = true then _ else _) _ _ _
    refine wpAny_ite ?_
    rw [if_pos hne]
    refine wpAny_bind (wpAny_holding (unchain_none (Heap.get?_push_of_some _ (Heap.get?_push_of_some _ he₀)) hd₀ h2 ?_))
    unfold updateField
    refine wpAny_bind (wpAny_bind (wpAny_load (Heap.get?_push_size _ rfl) ?_))
    dsimp only
    refine wpAny_ite ?_
    rw [if_pos (by simp)]
    refine wpAny_update (Heap.get?_push_size _ rfl) ?_
    refine wpAny_throw (k _ _ _ ⟨fun b o hb => ?_, Heap.get?_none_of_le (by simp), ?_⟩)
    · rw [Heap.get?_update_other _ _ (Nat.ne_of_gt (by have := Heap.lt_size hb; rw [Heap.size_push]; exact Nat.lt_succ_of_lt this))]
      exact Heap.get?_push_of_some _ (Heap.get?_push_of_some _ hb)
    · refine ⟨_, .ref s.heap.objs.size, Heap.get?_update_self _ (Heap.get?_push_size _ rfl) rfl, rfl, ?_⟩
      show Data.fields _ = Data.fields _
      rw [hh]
      simp

theorem rc_te {op : CmpOp} (hop : op = .Lt ∨ op = .GtE) {a b : Value} {Ta Tb ida idb : String} {Q : Value → Shared → Prop} (hh : HandOk A s.heap) (ha : ∀ s' : Shared, s'.TypeIs a Ta) (hb : ∀ s' : Shared, s'.TypeIs b Tb)
    (hsub : (Value.type Ta != Value.type Tb) = true → isSubtype (.type Tb) (.type Ta) = pure false) (h1 : Slot Ta (cmpInfo op).2.1 ida) (h2 : Slot Tb (cmpInfo op).2.2 idb)
    (hna : (Value.type Ta == Value.type "builtin_function_or_method") = false) (hnb : (Value.type Tb == Value.type "builtin_function_or_method") = false)
    (hc1 : ∀ Q' : Value → Shared → Prop, Q' .notImplemented s → wpAny (model prog w) A (call (.builtin ida) [a, b]) Q' E s)
    (hc2 : ∀ Q' : Value → Shared → Prop, Q' .notImplemented s → wpAny (model prog w) A (call (.builtin idb) [b, a]) Q' E s)
    (k : ∀ h' tk e, NewX A.handled s.heap h' e "TypeError" → E (.ref e) { s with heap := h', toks := tk })
    (hv : [a, b].any Value.onHeap = false := by rfl) (hTa : (shownName Ta).length ≤ 1000 := by decide) (hTb : (shownName Tb).length ≤ 1000 := by decide) :
    wpAny (model prog w) A (richCompare op a b) Q E s := by
  have fin : ∀ (sym : String), sym.length ≤ 2 → wpAny (model prog w) A (do
      rule "compare.unsupported"
      raiseError "TypeError" s!"'{sym}' not supported between instances of '{← typeNameOf a}' and '{← typeNameOf b}'") Q E s := by
    intro sym hs
    refine wpAny_bind (wpAny_rule (wpAny_bind (wpAny_typeNameOf' (ha s) hna (wpAny_bind (wpAny_typeNameOf' (hb s) hnb (raise_te hh k ?_))))))
    show (Str.ofString _).length ≤ sizeLine
    rw [PySem.ofString_length, sizeLine_eq]
    simp only [String.length_append, toString]
    have e1 : "'".length ≤ 100 := by decide
    have e3 : "' not supported between instances of '".length ≤ 100 := by decide
    have e4 : "' and '".length ≤ 100 := by decide
    omega
  have one : wpAny (model prog w) A (tryCompare a (cmpInfo op).2.1 b) (fun r s' => r = none ∧ s' = s) E s :=
    wpAny_tryCompare_declines (ha s) h1 (hc1 _ ⟨rfl, rfl, rfl⟩)
  have two : wpAny (model prog w) A (tryCompare b (cmpInfo op).2.2 a) (fun r s' => r = none ∧ s' = s) E s :=
    wpAny_tryCompare_declines (hb s) h2 (hc2 _ ⟨rfl, rfl, rfl⟩)
  simp only [richCompare, (ha s).oneThing_none]
  refine wpAny_holding ?_
  refine wpAny_bind (wpAny_cRoomFor_or (.inl hv) ?_)
  refine wpAny_bind (wpAny_typeOf (ha s) (wpAny_bind (wpAny_typeOf (hb s) ?_)))
  by_cases hne : (Value.type Ta != Value.type Tb) = true
  · simp only [hne, if_true]
    refine wpAny_bind (wpAny_of_eq (hsub hne) ?_)
    simp only [Bool.false_eq_true, if_false, Bool.not_false, if_true]
    refine wpAny_bind (wpAny_mono one (fun r s' hr => ?_) fun _ _ x => x)
    obtain ⟨rfl, rfl⟩ := hr
    refine wpAny_bind (wpAny_mono two (fun r s' hr => ?_) fun _ _ x => x)
    obtain ⟨rfl, rfl⟩ := hr
    rcases hop with rfl | rfl
    · exact fin "<" (by decide)
    · exact fin ">=" (by decide)
  · simp only [hne, if_false]
    refine wpAny_bind (wpAny_pure ?_)
    simp only [Bool.false_eq_true, if_false, Bool.not_false, if_true]
    refine wpAny_bind (wpAny_mono one (fun r s' hr => ?_) fun _ _ x => x)
    obtain ⟨rfl, rfl⟩ := hr
    refine wpAny_bind (wpAny_mono two (fun r s' hr => ?_) fun _ _ x => x)
    obtain ⟨rfl, rfl⟩ := hr
    rcases hop with rfl | rfl
    · exact fin "<" (by decide)
    · exact fin ">=" (by decide)
end
end
section
example : True := by w_top off; trivial
open PySem.SeqAt

/-- the law's things: an int, a text, octets, None -/
inductive Th : Value → Prop
  | int (i : Int) (t : Tok) : Th (.int i t)
  | str (x : Str) (t : Tok) : Th (.str x t)
  | bytes (b : Array UInt8) (t : Tok) : Th (.bytes b t)
  | none : Th .none

def eqV : Value → Value → Bool
  | .int i _, .int j _ => i == j
  | .str x _, .str y _ => x == y
  | .bytes a _, .bytes b _ => a.toList == b.toList
  | .none, .none => true
  | _, _ => false
def ltV : Value → Value → Option Bool
  | .int i _, .int j _ => some (decide (i < j))
  | .str x _, .str y _ => some (decide (x.cps.toList < y.cps.toList))
  | .bytes a _, .bytes b _ => some (Builtin.Bytes.order a.toList b.toList == .lt)
  | _, _ => Option.none

theorem gives_bytes_lt (b c : Array UInt8) (t u : Tok) : Gives (Builtin.«bytes.__lt__» ⟨[.bytes b t, .bytes c u], []⟩) (.val (.bool (Builtin.Bytes.order b.toList c.toList == .lt))) := by
  refine .of_wp fun M A E s Q hq => ?_
  show wpAny M A (isInstance (.bytes c u) (.type "bytes") >>= fun r => _) _ E s
  refine wpAny_bind (wpAny_isInstance (typeIs_bytes s c u) F.sub_bytes_bytes ?_)
  exact wpAny_pure ⟨_, rfl, hq⟩
theorem gives_bytes_ge (b c : Array UInt8) (t u : Tok) : Gives (Builtin.«bytes.__ge__» ⟨[.bytes b t, .bytes c u], []⟩) (.val (.bool (!(Builtin.Bytes.order b.toList c.toList == .lt)))) := by
  refine .of_wp fun M A E s Q hq => ?_
  show wpAny M A (isInstance (.bytes c u) (.type "bytes") >>= fun r => _) _ E s
  refine wpAny_bind (wpAny_isInstance (typeIs_bytes s c u) F.sub_bytes_bytes ?_)
  exact wpAny_pure ⟨_, rfl, hq⟩
section
variable {prog : Program} {w : World} {A : Around} {E : Value → Shared → Prop} {s : Shared}
theorem lt_bytes {b c : Array UInt8} {t u : Tok} {Q : Value → Shared → Prop} (h : Q (.bool (Builtin.Bytes.order b.toList c.toList == .lt)) s) : wpAny (model prog w) A (compareOp .Lt (.bytes b t) (.bytes c u)) Q E s :=
  compareOp_gives (op := .Lt) (typeIs_bytes s b t) (typeIs_bytes s c u) slot_bytes_lt entry_bytes_lt (args_bytes_lt_2 _ _) (gives_bytes_lt b c t u) (fun e => nomatch e) h
theorem ge_bytes {b c : Array UInt8} {t u : Tok} {Q : Value → Shared → Prop} (h : Q (.bool (!(Builtin.Bytes.order b.toList c.toList == .lt))) s) : wpAny (model prog w) A (compareOp .GtE (.bytes b t) (.bytes c u)) Q E s :=
  compareOp_gives (op := .GtE) (typeIs_bytes s b t) (typeIs_bytes s c u) slot_bytes_ge entry_bytes_ge (args_bytes_ge_2 _ _) (gives_bytes_ge b c t u) (fun e => nomatch e) h
theorem te_lt_IS (a : Int) (aq : Tok) (b : Str) (bq : Tok) {Q : Value → Shared → Prop} (hh : HandOk A s.heap) (k : ∀ h' tk e, NewX A.handled s.heap h' e "TypeError" → E (.ref e) { s with heap := h', toks := tk }) :
    wpAny (model prog w) A (compareOp .Lt (.int a aq) (.str b bq)) Q E s := by
  show wpAny _ A (richCompare .Lt _ _) Q E s
  exact rc_te (Or.inl rfl) hh (fun s => typeIs_int s a aq) (fun s => typeIs_str s b bq) (fun _ => by rw [isSubtype_type]; kernel_rfl) F.slot_int_lt F.slot_str_gt_refl (by decide) (by decide)
    (fun _ hq => call_gives F.slot_int_lt (typeIs_int s a aq) F.entry_int_lt (F.args_int_lt_2 _ _) (dcl_I_lt_S a aq b bq) hq)
    (fun _ hq => call_gives F.slot_str_gt_refl (typeIs_str s b bq) F.entry_str_gt (F.args_str_gt_2 _ _) (dcl_S_gt_I b bq a aq) hq) k
theorem te_ge_IS (a : Int) (aq : Tok) (b : Str) (bq : Tok) {Q : Value → Shared → Prop} (hh : HandOk A s.heap) (k : ∀ h' tk e, NewX A.handled s.heap h' e "TypeError" → E (.ref e) { s with heap := h', toks := tk }) :
    wpAny (model prog w) A (compareOp .GtE (.int a aq) (.str b bq)) Q E s := by
  show wpAny _ A (richCompare .GtE _ _) Q E s
  exact rc_te (Or.inr rfl) hh (fun s => typeIs_int s a aq) (fun s => typeIs_str s b bq) (fun _ => by rw [isSubtype_type]; kernel_rfl) F.slot_int_ge F.slot_str_le_refl (by decide) (by decide)
    (fun _ hq => call_gives F.slot_int_ge (typeIs_int s a aq) F.entry_int_ge (F.args_int_ge_2 _ _) (dcl_I_ge_S a aq b bq) hq)
    (fun _ hq => call_gives F.slot_str_le_refl (typeIs_str s b bq) F.entry_str_le (F.args_str_le_2 _ _) (dcl_S_le_I b bq a aq) hq) k
theorem te_lt_IB (a : Int) (aq : Tok) (b : Array UInt8) (bq : Tok) {Q : Value → Shared → Prop} (hh : HandOk A s.heap) (k : ∀ h' tk e, NewX A.handled s.heap h' e "TypeError" → E (.ref e) { s with heap := h', toks := tk }) :
    wpAny (model prog w) A (compareOp .Lt (.int a aq) (.bytes b bq)) Q E s := by
  show wpAny _ A (richCompare .Lt _ _) Q E s
  exact rc_te (Or.inl rfl) hh (fun s => typeIs_int s a aq) (fun s => typeIs_bytes s b bq) (fun _ => by rw [isSubtype_type]; kernel_rfl) F.slot_int_lt slot_bytes_gt_refl (by decide) (by decide)
    (fun _ hq => call_gives F.slot_int_lt (typeIs_int s a aq) F.entry_int_lt (F.args_int_lt_2 _ _) (dcl_I_lt_B a aq b bq) hq)
    (fun _ hq => call_gives slot_bytes_gt_refl (typeIs_bytes s b bq) entry_bytes_gt (args_bytes_gt_2 _ _) (dcl_B_gt_I b bq a aq) hq) k
theorem te_ge_IB (a : Int) (aq : Tok) (b : Array UInt8) (bq : Tok) {Q : Value → Shared → Prop} (hh : HandOk A s.heap) (k : ∀ h' tk e, NewX A.handled s.heap h' e "TypeError" → E (.ref e) { s with heap := h', toks := tk }) :
    wpAny (model prog w) A (compareOp .GtE (.int a aq) (.bytes b bq)) Q E s := by
  show wpAny _ A (richCompare .GtE _ _) Q E s
  exact rc_te (Or.inr rfl) hh (fun s => typeIs_int s a aq) (fun s => typeIs_bytes s b bq) (fun _ => by rw [isSubtype_type]; kernel_rfl) F.slot_int_ge slot_bytes_le_refl (by decide) (by decide)
    (fun _ hq => call_gives F.slot_int_ge (typeIs_int s a aq) F.entry_int_ge (F.args_int_ge_2 _ _) (dcl_I_ge_B a aq b bq) hq)
    (fun _ hq => call_gives slot_bytes_le_refl (typeIs_bytes s b bq) entry_bytes_le (args_bytes_le_2 _ _) (dcl_B_le_I b bq a aq) hq) k
theorem te_lt_IN (a : Int) (aq : Tok)  {Q : Value → Shared → Prop} (hh : HandOk A s.heap) (k : ∀ h' tk e, NewX A.handled s.heap h' e "TypeError" → E (.ref e) { s with heap := h', toks := tk }) :
    wpAny (model prog w) A (compareOp .Lt (.int a aq) (.none)) Q E s := by
  show wpAny _ A (richCompare .Lt _ _) Q E s
  exact rc_te (Or.inl rfl) hh (fun s => typeIs_int s a aq) (fun _ => rfl) (fun _ => by rw [isSubtype_type]; kernel_rfl) F.slot_int_lt F.slot_NoneType_gt_refl (by decide) (by decide)
    (fun _ hq => call_gives F.slot_int_lt (typeIs_int s a aq) F.entry_int_lt (F.args_int_lt_2 _ _) (dcl_I_lt_N a aq ) hq)
    (fun _ hq => call_gives F.slot_NoneType_gt_refl rfl F.entry_NoneType_gt (F.args_NoneType_gt_2 _ _) (dcl_N_gt_I  a aq) hq) k
theorem te_ge_IN (a : Int) (aq : Tok)  {Q : Value → Shared → Prop} (hh : HandOk A s.heap) (k : ∀ h' tk e, NewX A.handled s.heap h' e "TypeError" → E (.ref e) { s with heap := h', toks := tk }) :
    wpAny (model prog w) A (compareOp .GtE (.int a aq) (.none)) Q E s := by
  show wpAny _ A (richCompare .GtE _ _) Q E s
  exact rc_te (Or.inr rfl) hh (fun s => typeIs_int s a aq) (fun _ => rfl) (fun _ => by rw [isSubtype_type]; kernel_rfl) F.slot_int_ge F.slot_NoneType_le_refl (by decide) (by decide)
    (fun _ hq => call_gives F.slot_int_ge (typeIs_int s a aq) F.entry_int_ge (F.args_int_ge_2 _ _) (dcl_I_ge_N a aq ) hq)
    (fun _ hq => call_gives F.slot_NoneType_le_refl rfl F.entry_NoneType_le (F.args_NoneType_le_2 _ _) (dcl_N_le_I  a aq) hq) k
theorem te_lt_SI (a : Str) (aq : Tok) (b : Int) (bq : Tok) {Q : Value → Shared → Prop} (hh : HandOk A s.heap) (k : ∀ h' tk e, NewX A.handled s.heap h' e "TypeError" → E (.ref e) { s with heap := h', toks := tk }) :
    wpAny (model prog w) A (compareOp .Lt (.str a aq) (.int b bq)) Q E s := by
  show wpAny _ A (richCompare .Lt _ _) Q E s
  exact rc_te (Or.inl rfl) hh (fun s => typeIs_str s a aq) (fun s => typeIs_int s b bq) (fun _ => by rw [isSubtype_type]; kernel_rfl) F.slot_str_lt F.slot_int_gt_refl (by decide) (by decide)
    (fun _ hq => call_gives F.slot_str_lt (typeIs_str s a aq) F.entry_str_lt (F.args_str_lt_2 _ _) (dcl_S_lt_I a aq b bq) hq)
    (fun _ hq => call_gives F.slot_int_gt_refl (typeIs_int s b bq) F.entry_int_gt (F.args_int_gt_2 _ _) (dcl_I_gt_S b bq a aq) hq) k
theorem te_ge_SI (a : Str) (aq : Tok) (b : Int) (bq : Tok) {Q : Value → Shared → Prop} (hh : HandOk A s.heap) (k : ∀ h' tk e, NewX A.handled s.heap h' e "TypeError" → E (.ref e) { s with heap := h', toks := tk }) :
    wpAny (model prog w) A (compareOp .GtE (.str a aq) (.int b bq)) Q E s := by
  show wpAny _ A (richCompare .GtE _ _) Q E s
  exact rc_te (Or.inr rfl) hh (fun s => typeIs_str s a aq) (fun s => typeIs_int s b bq) (fun _ => by rw [isSubtype_type]; kernel_rfl) F.slot_str_ge F.slot_int_le_refl (by decide) (by decide)
    (fun _ hq => call_gives F.slot_str_ge (typeIs_str s a aq) F.entry_str_ge (F.args_str_ge_2 _ _) (dcl_S_ge_I a aq b bq) hq)
    (fun _ hq => call_gives F.slot_int_le_refl (typeIs_int s b bq) F.entry_int_le (F.args_int_le_2 _ _) (dcl_I_le_S b bq a aq) hq) k
theorem te_lt_SB (a : Str) (aq : Tok) (b : Array UInt8) (bq : Tok) {Q : Value → Shared → Prop} (hh : HandOk A s.heap) (k : ∀ h' tk e, NewX A.handled s.heap h' e "TypeError" → E (.ref e) { s with heap := h', toks := tk }) :
    wpAny (model prog w) A (compareOp .Lt (.str a aq) (.bytes b bq)) Q E s := by
  show wpAny _ A (richCompare .Lt _ _) Q E s
  exact rc_te (Or.inl rfl) hh (fun s => typeIs_str s a aq) (fun s => typeIs_bytes s b bq) (fun _ => by rw [isSubtype_type]; kernel_rfl) F.slot_str_lt slot_bytes_gt_refl (by decide) (by decide)
    (fun _ hq => call_gives F.slot_str_lt (typeIs_str s a aq) F.entry_str_lt (F.args_str_lt_2 _ _) (dcl_S_lt_B a aq b bq) hq)
    (fun _ hq => call_gives slot_bytes_gt_refl (typeIs_bytes s b bq) entry_bytes_gt (args_bytes_gt_2 _ _) (dcl_B_gt_S b bq a aq) hq) k
theorem te_ge_SB (a : Str) (aq : Tok) (b : Array UInt8) (bq : Tok) {Q : Value → Shared → Prop} (hh : HandOk A s.heap) (k : ∀ h' tk e, NewX A.handled s.heap h' e "TypeError" → E (.ref e) { s with heap := h', toks := tk }) :
    wpAny (model prog w) A (compareOp .GtE (.str a aq) (.bytes b bq)) Q E s := by
  show wpAny _ A (richCompare .GtE _ _) Q E s
  exact rc_te (Or.inr rfl) hh (fun s => typeIs_str s a aq) (fun s => typeIs_bytes s b bq) (fun _ => by rw [isSubtype_type]; kernel_rfl) F.slot_str_ge slot_bytes_le_refl (by decide) (by decide)
    (fun _ hq => call_gives F.slot_str_ge (typeIs_str s a aq) F.entry_str_ge (F.args_str_ge_2 _ _) (dcl_S_ge_B a aq b bq) hq)
    (fun _ hq => call_gives slot_bytes_le_refl (typeIs_bytes s b bq) entry_bytes_le (args_bytes_le_2 _ _) (dcl_B_le_S b bq a aq) hq) k
theorem te_lt_SN (a : Str) (aq : Tok)  {Q : Value → Shared → Prop} (hh : HandOk A s.heap) (k : ∀ h' tk e, NewX A.handled s.heap h' e "TypeError" → E (.ref e) { s with heap := h', toks := tk }) :
    wpAny (model prog w) A (compareOp .Lt (.str a aq) (.none)) Q E s := by
  show wpAny _ A (richCompare .Lt _ _) Q E s
  exact rc_te (Or.inl rfl) hh (fun s => typeIs_str s a aq) (fun _ => rfl) (fun _ => by rw [isSubtype_type]; kernel_rfl) F.slot_str_lt F.slot_NoneType_gt_refl (by decide) (by decide)
    (fun _ hq => call_gives F.slot_str_lt (typeIs_str s a aq) F.entry_str_lt (F.args_str_lt_2 _ _) (dcl_S_lt_N a aq ) hq)
    (fun _ hq => call_gives F.slot_NoneType_gt_refl rfl F.entry_NoneType_gt (F.args_NoneType_gt_2 _ _) (dcl_N_gt_S  a aq) hq) k
theorem te_ge_SN (a : Str) (aq : Tok)  {Q : Value → Shared → Prop} (hh : HandOk A s.heap) (k : ∀ h' tk e, NewX A.handled s.heap h' e "TypeError" → E (.ref e) { s with heap := h', toks := tk }) :
    wpAny (model prog w) A (compareOp .GtE (.str a aq) (.none)) Q E s := by
  show wpAny _ A (richCompare .GtE _ _) Q E s
  exact rc_te (Or.inr rfl) hh (fun s => typeIs_str s a aq) (fun _ => rfl) (fun _ => by rw [isSubtype_type]; kernel_rfl) F.slot_str_ge F.slot_NoneType_le_refl (by decide) (by decide)
    (fun _ hq => call_gives F.slot_str_ge (typeIs_str s a aq) F.entry_str_ge (F.args_str_ge_2 _ _) (dcl_S_ge_N a aq ) hq)
    (fun _ hq => call_gives F.slot_NoneType_le_refl rfl F.entry_NoneType_le (F.args_NoneType_le_2 _ _) (dcl_N_le_S  a aq) hq) k
theorem te_lt_BI (a : Array UInt8) (aq : Tok) (b : Int) (bq : Tok) {Q : Value → Shared → Prop} (hh : HandOk A s.heap) (k : ∀ h' tk e, NewX A.handled s.heap h' e "TypeError" → E (.ref e) { s with heap := h', toks := tk }) :
    wpAny (model prog w) A (compareOp .Lt (.bytes a aq) (.int b bq)) Q E s := by
  show wpAny _ A (richCompare .Lt _ _) Q E s
  exact rc_te (Or.inl rfl) hh (fun s => typeIs_bytes s a aq) (fun s => typeIs_int s b bq) (fun _ => by rw [isSubtype_type]; kernel_rfl) slot_bytes_lt F.slot_int_gt_refl (by decide) (by decide)
    (fun _ hq => call_gives slot_bytes_lt (typeIs_bytes s a aq) entry_bytes_lt (args_bytes_lt_2 _ _) (dcl_B_lt_I a aq b bq) hq)
    (fun _ hq => call_gives F.slot_int_gt_refl (typeIs_int s b bq) F.entry_int_gt (F.args_int_gt_2 _ _) (dcl_I_gt_B b bq a aq) hq) k
theorem te_ge_BI (a : Array UInt8) (aq : Tok) (b : Int) (bq : Tok) {Q : Value → Shared → Prop} (hh : HandOk A s.heap) (k : ∀ h' tk e, NewX A.handled s.heap h' e "TypeError" → E (.ref e) { s with heap := h', toks := tk }) :
    wpAny (model prog w) A (compareOp .GtE (.bytes a aq) (.int b bq)) Q E s := by
  show wpAny _ A (richCompare .GtE _ _) Q E s
  exact rc_te (Or.inr rfl) hh (fun s => typeIs_bytes s a aq) (fun s => typeIs_int s b bq) (fun _ => by rw [isSubtype_type]; kernel_rfl) slot_bytes_ge F.slot_int_le_refl (by decide) (by decide)
    (fun _ hq => call_gives slot_bytes_ge (typeIs_bytes s a aq) entry_bytes_ge (args_bytes_ge_2 _ _) (dcl_B_ge_I a aq b bq) hq)
    (fun _ hq => call_gives F.slot_int_le_refl (typeIs_int s b bq) F.entry_int_le (F.args_int_le_2 _ _) (dcl_I_le_B b bq a aq) hq) k
theorem te_lt_BS (a : Array UInt8) (aq : Tok) (b : Str) (bq : Tok) {Q : Value → Shared → Prop} (hh : HandOk A s.heap) (k : ∀ h' tk e, NewX A.handled s.heap h' e "TypeError" → E (.ref e) { s with heap := h', toks := tk }) :
    wpAny (model prog w) A (compareOp .Lt (.bytes a aq) (.str b bq)) Q E s := by
  show wpAny _ A (richCompare .Lt _ _) Q E s
  exact rc_te (Or.inl rfl) hh (fun s => typeIs_bytes s a aq) (fun s => typeIs_str s b bq) (fun _ => by rw [isSubtype_type]; kernel_rfl) slot_bytes_lt F.slot_str_gt_refl (by decide) (by decide)
    (fun _ hq => call_gives slot_bytes_lt (typeIs_bytes s a aq) entry_bytes_lt (args_bytes_lt_2 _ _) (dcl_B_lt_S a aq b bq) hq)
    (fun _ hq => call_gives F.slot_str_gt_refl (typeIs_str s b bq) F.entry_str_gt (F.args_str_gt_2 _ _) (dcl_S_gt_B b bq a aq) hq) k
theorem te_ge_BS (a : Array UInt8) (aq : Tok) (b : Str) (bq : Tok) {Q : Value → Shared → Prop} (hh : HandOk A s.heap) (k : ∀ h' tk e, NewX A.handled s.heap h' e "TypeError" → E (.ref e) { s with heap := h', toks := tk }) :
    wpAny (model prog w) A (compareOp .GtE (.bytes a aq) (.str b bq)) Q E s := by
  show wpAny _ A (richCompare .GtE _ _) Q E s
  exact rc_te (Or.inr rfl) hh (fun s => typeIs_bytes s a aq) (fun s => typeIs_str s b bq) (fun _ => by rw [isSubtype_type]; kernel_rfl) slot_bytes_ge F.slot_str_le_refl (by decide) (by decide)
    (fun _ hq => call_gives slot_bytes_ge (typeIs_bytes s a aq) entry_bytes_ge (args_bytes_ge_2 _ _) (dcl_B_ge_S a aq b bq) hq)
    (fun _ hq => call_gives F.slot_str_le_refl (typeIs_str s b bq) F.entry_str_le (F.args_str_le_2 _ _) (dcl_S_le_B b bq a aq) hq) k
theorem te_lt_BN (a : Array UInt8) (aq : Tok)  {Q : Value → Shared → Prop} (hh : HandOk A s.heap) (k : ∀ h' tk e, NewX A.handled s.heap h' e "TypeError" → E (.ref e) { s with heap := h', toks := tk }) :
    wpAny (model prog w) A (compareOp .Lt (.bytes a aq) (.none)) Q E s := by
  show wpAny _ A (richCompare .Lt _ _) Q E s
  exact rc_te (Or.inl rfl) hh (fun s => typeIs_bytes s a aq) (fun _ => rfl) (fun _ => by rw [isSubtype_type]; kernel_rfl) slot_bytes_lt F.slot_NoneType_gt_refl (by decide) (by decide)
    (fun _ hq => call_gives slot_bytes_lt (typeIs_bytes s a aq) entry_bytes_lt (args_bytes_lt_2 _ _) (dcl_B_lt_N a aq ) hq)
    (fun _ hq => call_gives F.slot_NoneType_gt_refl rfl F.entry_NoneType_gt (F.args_NoneType_gt_2 _ _) (dcl_N_gt_B  a aq) hq) k
theorem te_ge_BN (a : Array UInt8) (aq : Tok)  {Q : Value → Shared → Prop} (hh : HandOk A s.heap) (k : ∀ h' tk e, NewX A.handled s.heap h' e "TypeError" → E (.ref e) { s with heap := h', toks := tk }) :
    wpAny (model prog w) A (compareOp .GtE (.bytes a aq) (.none)) Q E s := by
  show wpAny _ A (richCompare .GtE _ _) Q E s
  exact rc_te (Or.inr rfl) hh (fun s => typeIs_bytes s a aq) (fun _ => rfl) (fun _ => by rw [isSubtype_type]; kernel_rfl) slot_bytes_ge F.slot_NoneType_le_refl (by decide) (by decide)
    (fun _ hq => call_gives slot_bytes_ge (typeIs_bytes s a aq) entry_bytes_ge (args_bytes_ge_2 _ _) (dcl_B_ge_N a aq ) hq)
    (fun _ hq => call_gives F.slot_NoneType_le_refl rfl F.entry_NoneType_le (F.args_NoneType_le_2 _ _) (dcl_N_le_B  a aq) hq) k
theorem te_lt_NI  (b : Int) (bq : Tok) {Q : Value → Shared → Prop} (hh : HandOk A s.heap) (k : ∀ h' tk e, NewX A.handled s.heap h' e "TypeError" → E (.ref e) { s with heap := h', toks := tk }) :
    wpAny (model prog w) A (compareOp .Lt (.none) (.int b bq)) Q E s := by
  show wpAny _ A (richCompare .Lt _ _) Q E s
  exact rc_te (Or.inl rfl) hh (fun _ => rfl) (fun s => typeIs_int s b bq) (fun _ => by rw [isSubtype_type]; kernel_rfl) F.slot_NoneType_lt F.slot_int_gt_refl (by decide) (by decide)
    (fun _ hq => call_gives F.slot_NoneType_lt rfl F.entry_NoneType_lt (F.args_NoneType_lt_2 _ _) (dcl_N_lt_I  b bq) hq)
    (fun _ hq => call_gives F.slot_int_gt_refl (typeIs_int s b bq) F.entry_int_gt (F.args_int_gt_2 _ _) (dcl_I_gt_N b bq ) hq) k
theorem te_ge_NI  (b : Int) (bq : Tok) {Q : Value → Shared → Prop} (hh : HandOk A s.heap) (k : ∀ h' tk e, NewX A.handled s.heap h' e "TypeError" → E (.ref e) { s with heap := h', toks := tk }) :
    wpAny (model prog w) A (compareOp .GtE (.none) (.int b bq)) Q E s := by
  show wpAny _ A (richCompare .GtE _ _) Q E s
  exact rc_te (Or.inr rfl) hh (fun _ => rfl) (fun s => typeIs_int s b bq) (fun _ => by rw [isSubtype_type]; kernel_rfl) F.slot_NoneType_ge F.slot_int_le_refl (by decide) (by decide)
    (fun _ hq => call_gives F.slot_NoneType_ge rfl F.entry_NoneType_ge (F.args_NoneType_ge_2 _ _) (dcl_N_ge_I  b bq) hq)
    (fun _ hq => call_gives F.slot_int_le_refl (typeIs_int s b bq) F.entry_int_le (F.args_int_le_2 _ _) (dcl_I_le_N b bq ) hq) k
theorem te_lt_NS  (b : Str) (bq : Tok) {Q : Value → Shared → Prop} (hh : HandOk A s.heap) (k : ∀ h' tk e, NewX A.handled s.heap h' e "TypeError" → E (.ref e) { s with heap := h', toks := tk }) :
    wpAny (model prog w) A (compareOp .Lt (.none) (.str b bq)) Q E s := by
  show wpAny _ A (richCompare .Lt _ _) Q E s
  exact rc_te (Or.inl rfl) hh (fun _ => rfl) (fun s => typeIs_str s b bq) (fun _ => by rw [isSubtype_type]; kernel_rfl) F.slot_NoneType_lt F.slot_str_gt_refl (by decide) (by decide)
    (fun _ hq => call_gives F.slot_NoneType_lt rfl F.entry_NoneType_lt (F.args_NoneType_lt_2 _ _) (dcl_N_lt_S  b bq) hq)
    (fun _ hq => call_gives F.slot_str_gt_refl (typeIs_str s b bq) F.entry_str_gt (F.args_str_gt_2 _ _) (dcl_S_gt_N b bq ) hq) k
theorem te_ge_NS  (b : Str) (bq : Tok) {Q : Value → Shared → Prop} (hh : HandOk A s.heap) (k : ∀ h' tk e, NewX A.handled s.heap h' e "TypeError" → E (.ref e) { s with heap := h', toks := tk }) :
    wpAny (model prog w) A (compareOp .GtE (.none) (.str b bq)) Q E s := by
  show wpAny _ A (richCompare .GtE _ _) Q E s
  exact rc_te (Or.inr rfl) hh (fun _ => rfl) (fun s => typeIs_str s b bq) (fun _ => by rw [isSubtype_type]; kernel_rfl) F.slot_NoneType_ge F.slot_str_le_refl (by decide) (by decide)
    (fun _ hq => call_gives F.slot_NoneType_ge rfl F.entry_NoneType_ge (F.args_NoneType_ge_2 _ _) (dcl_N_ge_S  b bq) hq)
    (fun _ hq => call_gives F.slot_str_le_refl (typeIs_str s b bq) F.entry_str_le (F.args_str_le_2 _ _) (dcl_S_le_N b bq ) hq) k
theorem te_lt_NB  (b : Array UInt8) (bq : Tok) {Q : Value → Shared → Prop} (hh : HandOk A s.heap) (k : ∀ h' tk e, NewX A.handled s.heap h' e "TypeError" → E (.ref e) { s with heap := h', toks := tk }) :
    wpAny (model prog w) A (compareOp .Lt (.none) (.bytes b bq)) Q E s := by
  show wpAny _ A (richCompare .Lt _ _) Q E s
  exact rc_te (Or.inl rfl) hh (fun _ => rfl) (fun s => typeIs_bytes s b bq) (fun _ => by rw [isSubtype_type]; kernel_rfl) F.slot_NoneType_lt slot_bytes_gt_refl (by decide) (by decide)
    (fun _ hq => call_gives F.slot_NoneType_lt rfl F.entry_NoneType_lt (F.args_NoneType_lt_2 _ _) (dcl_N_lt_B  b bq) hq)
    (fun _ hq => call_gives slot_bytes_gt_refl (typeIs_bytes s b bq) entry_bytes_gt (args_bytes_gt_2 _ _) (dcl_B_gt_N b bq ) hq) k
theorem te_ge_NB  (b : Array UInt8) (bq : Tok) {Q : Value → Shared → Prop} (hh : HandOk A s.heap) (k : ∀ h' tk e, NewX A.handled s.heap h' e "TypeError" → E (.ref e) { s with heap := h', toks := tk }) :
    wpAny (model prog w) A (compareOp .GtE (.none) (.bytes b bq)) Q E s := by
  show wpAny _ A (richCompare .GtE _ _) Q E s
  exact rc_te (Or.inr rfl) hh (fun _ => rfl) (fun s => typeIs_bytes s b bq) (fun _ => by rw [isSubtype_type]; kernel_rfl) F.slot_NoneType_ge slot_bytes_le_refl (by decide) (by decide)
    (fun _ hq => call_gives F.slot_NoneType_ge rfl F.entry_NoneType_ge (F.args_NoneType_ge_2 _ _) (dcl_N_ge_B  b bq) hq)
    (fun _ hq => call_gives slot_bytes_le_refl (typeIs_bytes s b bq) entry_bytes_le (args_bytes_le_2 _ _) (dcl_B_le_N b bq ) hq) k
theorem te_lt_NN   {Q : Value → Shared → Prop} (hh : HandOk A s.heap) (k : ∀ h' tk e, NewX A.handled s.heap h' e "TypeError" → E (.ref e) { s with heap := h', toks := tk }) :
    wpAny (model prog w) A (compareOp .Lt (.none) (.none)) Q E s := by
  show wpAny _ A (richCompare .Lt _ _) Q E s
  exact rc_te (Or.inl rfl) hh (fun _ => rfl) (fun _ => rfl) (fun q => absurd q (by decide)) F.slot_NoneType_lt F.slot_NoneType_gt_refl (by decide) (by decide)
    (fun _ hq => call_gives F.slot_NoneType_lt rfl F.entry_NoneType_lt (F.args_NoneType_lt_2 _ _) (dcl_N_lt_N  ) hq)
    (fun _ hq => call_gives F.slot_NoneType_gt_refl rfl F.entry_NoneType_gt (F.args_NoneType_gt_2 _ _) (dcl_N_gt_N  ) hq) k
theorem te_ge_NN   {Q : Value → Shared → Prop} (hh : HandOk A s.heap) (k : ∀ h' tk e, NewX A.handled s.heap h' e "TypeError" → E (.ref e) { s with heap := h', toks := tk }) :
    wpAny (model prog w) A (compareOp .GtE (.none) (.none)) Q E s := by
  show wpAny _ A (richCompare .GtE _ _) Q E s
  exact rc_te (Or.inr rfl) hh (fun _ => rfl) (fun _ => rfl) (fun q => absurd q (by decide)) F.slot_NoneType_ge F.slot_NoneType_le_refl (by decide) (by decide)
    (fun _ hq => call_gives F.slot_NoneType_ge rfl F.entry_NoneType_ge (F.args_NoneType_ge_2 _ _) (dcl_N_ge_N  ) hq)
    (fun _ hq => call_gives F.slot_NoneType_le_refl rfl F.entry_NoneType_le (F.args_NoneType_le_2 _ _) (dcl_N_le_N  ) hq) k

theorem th_lt {a b : Value} {Q : Value → Shared → Prop} (ha : Th a) (hb : Th b) (hh : HandOk A s.heap) (k1 : ∀ r, ltV a b = some r → Q (.bool r) s)
    (k2 : ltV a b = Option.none → ∀ h' tk e, NewX A.handled s.heap h' e "TypeError" → E (.ref e) { s with heap := h', toks := tk }) : wpAny (model prog w) A (compareOp .Lt a b) Q E s := by
  cases ha <;> cases hb
  · exact lt_int (k1 _ rfl)
  · exact te_lt_IS _ _ _ _ hh (k2 rfl)
  · exact te_lt_IB _ _ _ _ hh (k2 rfl)
  · exact te_lt_IN _ _  hh (k2 rfl)
  · exact te_lt_SI _ _ _ _ hh (k2 rfl)
  · exact lt_str (k1 _ rfl)
  · exact te_lt_SB _ _ _ _ hh (k2 rfl)
  · exact te_lt_SN _ _  hh (k2 rfl)
  · exact te_lt_BI _ _ _ _ hh (k2 rfl)
  · exact te_lt_BS _ _ _ _ hh (k2 rfl)
  · exact lt_bytes (k1 _ rfl)
  · exact te_lt_BN _ _  hh (k2 rfl)
  · exact te_lt_NI  _ _ hh (k2 rfl)
  · exact te_lt_NS  _ _ hh (k2 rfl)
  · exact te_lt_NB  _ _ hh (k2 rfl)
  · exact te_lt_NN   hh (k2 rfl)

theorem th_ge {a b : Value} {Q : Value → Shared → Prop} (ha : Th a) (hb : Th b) (hh : HandOk A s.heap) (k1 : ∀ r, ltV a b = some r → Q (.bool (!r)) s)
    (k2 : ltV a b = Option.none → ∀ h' tk e, NewX A.handled s.heap h' e "TypeError" → E (.ref e) { s with heap := h', toks := tk }) : wpAny (model prog w) A (compareOp .GtE a b) Q E s := by
  cases ha <;> cases hb
  · refine ge_int ?_
    have q := k1 _ rfl
    have e : ∀ i j : Int, (!(decide (i < j))) = decide (i ≥ j) := fun i j => by
      by_cases h : i < j
      · simp [h]
      · simp [h, Int.not_lt.mp h]
    rw [e] at q
    exact q
  · exact te_ge_IS _ _ _ _ hh (k2 rfl)
  · exact te_ge_IB _ _ _ _ hh (k2 rfl)
  · exact te_ge_IN _ _  hh (k2 rfl)
  · exact te_ge_SI _ _ _ _ hh (k2 rfl)
  · exact PySem.P.ge_str (k1 _ rfl)
  · exact te_ge_SB _ _ _ _ hh (k2 rfl)
  · exact te_ge_SN _ _  hh (k2 rfl)
  · exact te_ge_BI _ _ _ _ hh (k2 rfl)
  · exact te_ge_BS _ _ _ _ hh (k2 rfl)
  · exact ge_bytes (k1 _ rfl)
  · exact te_ge_BN _ _  hh (k2 rfl)
  · exact te_ge_NI  _ _ hh (k2 rfl)
  · exact te_ge_NS  _ _ hh (k2 rfl)
  · exact te_ge_NB  _ _ hh (k2 rfl)
  · exact te_ge_NN   hh (k2 rfl)

theorem th_rc {a b : Value} (ha : Th a) (hb : Th b) : RcAt A s a b (eqV a b) := by
  cases ha <;> cases hb
  · exact RcAt.int_int _ _ _ _
  · exact RcAt.int_str _ _ _ _
  · exact rc_IB _ _ _ _
  · exact RcAt.int_none _ _ 
  · exact RcAt.str_int _ _ _ _
  · exact RcAt.str_str _ _ _ _
  · exact rc_SB _ _ _ _
  · exact RcAt.str_none _ _ 
  · exact rc_BI _ _ _ _
  · exact rc_BS _ _ _ _
  · exact fun prog w E Q h => eq_bytes h
  · exact rc_BN _ _ 
  · exact RcAt.none_int  _ _
  · exact RcAt.none_str  _ _
  · exact rc_NB  _ _
  · exact RcAt.none_none  

theorem th_rcne {a b : Value} (ha : Th a) (hb : Th b) : RcNeAt A s a b (!eqV a b) := by
  cases ha <;> cases hb
  · exact RcNeAt.int_int _ _ _ _
  · exact RcNeAt.int_str _ _ _ _
  · exact rcne_IB _ _ _ _
  · exact RcNeAt.int_none _ _ 
  · exact RcNeAt.str_int _ _ _ _
  · exact RcNeAt.str_str _ _ _ _
  · exact rcne_SB _ _ _ _
  · exact RcNeAt.str_none _ _ 
  · exact rcne_BI _ _ _ _
  · exact rcne_BS _ _ _ _
  · exact fun prog w E Q h => ne_bytes h
  · exact rcne_BN _ _ 
  · exact RcNeAt.none_int  _ _
  · exact RcNeAt.none_str  _ _
  · exact rcne_NB  _ _
  · exact RcNeAt.none_none  

theorem th_eqAt {a b : Value} (ha : Th a) (hb : Th b) : EqAt A s a b (eqV a b) := fun prog w E Q h => by
  unfold eqBool
  refine wpAny_holding ?_
  refine wpAny_ite_split (fun hab => ?_) (fun _ => ?_)
  · have e := eq_of_beq hab
    subst e
    have h1 : eqV a a = true := by cases ha <;> simp [eqV]
    rw [h1] at h
    exact wpAny_bind (wpAny_rule (wpAny_pure h))
  · have fl : ∀ (t : Sem Bool), wpAny (model prog w) A (do
        let r ← richCompare .Eq a b
        truthOfDropped r) Q E s := fun _ => wpAny_bind (th_rc ha hb prog w E _ (wpAny_truthy_bool h))
    cases ha <;> cases hb <;> exact fl (pure true)
theorem th_eq {a b : Value} {Q : Value → Shared → Prop} (ha : Th a) (hb : Th b) (h : Q (.bool (eqV a b)) s) : wpAny (model prog w) A (compareOp .Eq a b) Q E s := th_rc ha hb prog w E Q h
theorem th_ne {a b : Value} {Q : Value → Shared → Prop} (ha : Th a) (hb : Th b) (h : Q (.bool (!eqV a b)) s) : wpAny (model prog w) A (compareOp .NotEq a b) Q E s := th_rcne ha hb prog w E Q h
end
end
section
example : True := by w_top off; trivial
open PySem.Calls PySem.Spec

/-- the frames below: their addresses -/
abbrev frs (l : List Env) : List Addr := l.filterMap (·.frame)

/-- the frames below, as they are now: since they were fr₁ their slots alone have turned -/
def Tl (l : List Env) (fr₁ fr : List (Addr × Obj)) : Prop := TI.Frs l fr ∧ TI.SameUp fr₁ fr
theorem Tl.refl {l : List Env} {fr : List (Addr × Obj)} (h : TI.Frs l fr) : Tl l fr fr := ⟨h, TI.SameUp.refl _⟩
theorem Tl.up {l : List Env} {fr₁ fr fr' : List (Addr × Obj)} (h : Tl l fr₁ fr) (u : TI.SameUp fr fr') : Tl l fr₁ fr' := ⟨h.1.up u, h.2.trans u⟩
theorem Tl.at {l : List Env} {fr₁ fr fr' : List (Addr × Obj)} (h : Tl l fr₁ fr) (u : Tl l fr fr') : Tl l fr₁ fr' := ⟨u.1, h.2.trans u.2⟩

section
variable {prog : Program} {w : World} {A : Around} {E : Value → Shared → Prop} {s : Shared}

theorem note_new {env : Env} {l : List Env} {L e : Addr} {oe : Obj} {vs : Array Value} {Q : Unit → Shared → Prop} (hfr : A.frames = some (env :: l)) (hl : s.heap.FunFrames {} (env :: l)) (hf : env.frame = some L)
    (he : s.heap.get? e = some oe) (hd : oe.data = .fields vs) (h1 : vs[1]? = some .none)
    (k : ∀ h₁ tb tvs, (∀ b o, b ∉ frs (env :: l) → b ≠ e → s.heap.get? b = some o → h₁.get? b = some o) → (∀ b o, b ∈ frs (env :: l) → s.heap.get? b = some o → ∃ sl, h₁.get? b = some { o with slots := sl }) →
      s.heap.get? tb = none → h₁.get? e = some (oe.mapFields (·.setIfInBounds 1 (.ref tb))) → h₁.get? tb = some { cls := .type "traceback", dict := none, data := .fields tvs } → 3 < tvs.size → Q () { s with heap := h₁ }) :
    wpAny (model prog w) A (noteFrame (.ref e) env) Q E s := by
  have hsz : 1 < vs.size := (Array.getElem?_eq_some_iff.mp h1).1
  have hene : e ∉ frs (env :: l) := fun hm => by
    obtain ⟨_, o, ho, hnf⟩ := hl.mem hm
    rw [he] at ho; injection ho with ho; subst ho; exact hnf vs hd
  unfold noteFrame
  simp only [hf]
  refine wpAny_bind (wpAny_field he hd h1 ?_)
  rw [if_neg (by decide)]
  refine wpAny_bind (wpAny_frameOf_fun hfr hl hf fun h₁ hs₁ => ?_)
  refine wpAny_bind (wpAny_entryPlaceOf fun pl hpl => ?_)
  unfold EntryCells.newEntry newFields
  refine wpAny_bind (wpAny_newObj_type ?_ (hpl.sizeOk5 _ _ _ _ _))
  have he₁ : h₁.get? e = some oe := (hs₁.2.1 e hene).trans he
  have he₂ := Heap.get?_push_of_some (h := h₁) { cls := .type "traceback", dict := none, data := .fields ([.none, .ref L, .none, rawInt L, .none] ++ (if pl.isEmpty then List.replicate 6 Value.none else pl)).toArray } he₁
  refine wpAny_setField he₂ hd hsz ?_
  have hTe : h₁.objs.size ≠ e := Nat.ne_of_gt (Heap.lt_size he₁)
  have hd₃ := Obj.data_mapFields hd (·.setIfInBounds 1 (Value.ref h₁.objs.size))
  have ht : s.heap.get? h₁.objs.size = none := Heap.get?_none_of_le (by rw [hs₁.1]; exact Nat.le_refl _)
  refine k _ h₁.objs.size _ (fun b o hb hbe hbo => ?_) (fun b o hb hbo => ?_) ht (Heap.get?_update_self _ he₂ (Obj.isFreed_of_fields hd₃)) ((Heap.get?_update_other _ _ (Ne.symm hTe)).trans (Heap.get?_push_size h₁ rfl)) (by simp)
  · rw [Heap.get?_update_other _ _ (Ne.symm hbe)]
    exact Heap.get?_push_of_some _ ((hs₁.2.1 b hb).trans hbo)
  · obtain ⟨sl, hsl⟩ := hs₁.2.2 b o hbo
    refine ⟨sl, ?_⟩
    rw [Heap.get?_update_other _ _ (fun q => by subst q; exact hene hb)]
    exact Heap.get?_push_of_some _ hsl

theorem setFlight_tb {e tb : Addr} {oe : Obj} {vs tvs : Array Value} {Q : Unit → Shared → Prop} (he : s.heap.get? e = some oe) (hd : oe.data = .fields vs) (h1 : vs[1]? = some (.ref tb)) (htb : s.heap.get? tb = some { cls := .type "traceback", dict := none, data := .fields tvs }) (hsz : 3 < tvs.size)
    (k : ∀ h₁ tvs', (∀ b, b ≠ tb → h₁.get? b = s.heap.get? b) → h₁.get? tb = some { cls := .type "traceback", dict := none, data := .fields tvs' } → 3 < tvs'.size → Q () { s with heap := h₁ }) :
    wpAny (model prog w) A (setFlight (.ref e) none) Q E s := by
  refine wpAny_setFlight_none he hd h1 htb rfl hsz (k _ (tvs.setIfInBounds 3 .none) (fun b hb => Heap.get?_update_other _ _ (Ne.symm hb)) ?_ (by simpa using hsz))
  have := Heap.get?_update_self (Obj.mapFields (·.setIfInBounds 3 Value.none)) htb rfl
  exact this

theorem frs_fun {h : Heap} {env : Env} {l : List Env} {fr : List (Addr × Obj)} {L : Addr} {m : Str → Option Value} (hf : env.frame = some L) (hk : env.scope.kind = .function) (hn : h.Ns L m) (Fs : TI.Frs l fr) (ht : ∀ q ∈ fr, h.get? q.1 = some q.2) : h.FunFrames {} (env :: l) := by
  refine Heap.FunFrames.cons (by rw [hk]; decide) hf hn (by simp [Heap.get?]) (Fs.fun fun p hp => ⟨ht p hp, by simp [Heap.get?]⟩)

/-- a new exception, met and taken by the frame's own clause -/
theorem catch_new {env : Env} {l : List Env} {L e : Addr} {hb h : Heap} {X T : String} {hd : Option Value} {m : Str → Option Value} {own fr₁ fr : List (Addr × Obj)} {t : Expr} {b₀ : Stmt} {suite : List Stmt} {pos : Pos} {rest : List ExceptHandler} {Q : Flow → Shared → Prop}
    (hfr : A.frames = some (env :: l)) (hf : env.frame = some L) (hk : env.scope.kind = .function) (Tt : Tl l fr₁ fr) (hx : NewX hd h s.heap e X) (F : Fr hb L h m) (N : News hb L h (own ++ fr)) (O : ∀ p ∈ own, p.1 ∉ frs l)
    (hname : ∀ (s' : Shared) (Q' : Value → Shared → Prop), Fr hb L s'.heap m → Q' (.type T) s' → wpAny (model prog w) (A.mark (some (.ref e))) (eval t env) Q' E s')
    (hexc : isSubtype (.type T) (.type "BaseException") = pure true) (hnt : isSubtype (.type ((Manifest.find? T).elim "type" fun y => y.metatype)) (.type "tuple") = pure false) (hsub : isSubtype (.type X) (.type T) = pure true)
    (k : ∀ h' fr' oe vs, Tl l fr₁ fr' → Fr hb L h' m → News hb L h' ((e, oe) :: (own ++ fr')) → e ∉ frs l → oe.data = .fields vs → vs[2]? = some (hd.getD .none) →
      wpAny (model prog w) (A.mark (some (.ref e))) (execs (b₀ :: suite) env) Q E { s with heap := h' })
    (hE : PassesOwnAt (model prog w) (A.mark (some (.ref e))) A env E) :
    wpAny (model prog w) A (noteFrame (.ref e) env) (fun _ s₂ => wpAny (model prog w) A (setFlight (.ref e) none) (fun _ s₃ =>
      wpAny (model prog w) A (handleBy (.ref e) env (.ExceptHandler (some t) none (b₀ :: suite) pos :: rest)) Q E s₃) E s₂) E s := by
  have Fs := Tt.1
  obtain ⟨ob, tt, he, hcls, hdt⟩ := hx.there
  have hNs : s.heap.Ns L m := F.ns.keeps hx.keeps
  have hff := frs_fun hf hk hNs Fs fun q hq => hx.keeps _ _ (N q (List.mem_append_right _ hq)).1
  have hadr : frs (env :: l) = L :: fr.map (·.1) := by rw [frs, List.filterMap_cons, hf]; exact congrArg _ Fs.addrs
  have hel : e ∉ frs l := fun hm => by
    have hm' : e ∈ frs (env :: l) := by rw [frs, List.filterMap_cons, hf]; exact .tail _ hm
    obtain ⟨_, o, ho, hnf⟩ := hff.mem hm'
    rw [he] at ho; injection ho with ho; subst ho; exact hnf _ hdt
  have hbL : ∀ b o, hb.get? b = some o → b ∉ frs (env :: l) := fun b o hbo hm => by
    rw [hadr] at hm
    rcases List.mem_cons.mp hm with q | hm
    · exact absurd (q ▸ Heap.lt_size hbo) (Nat.not_lt.mpr F.above)
    · obtain ⟨p, hp, q⟩ := List.mem_map.mp hm
      have := (N p (List.mem_append_right _ hp)).2.2
      rw [q, hbo] at this; cases this
  have hbe : ∀ b o, hb.get? b = some o → b ≠ e := fun b o hbo q => by
    have := F.keep b o hbo; rw [q, hx.new] at this; cases this
  have hbe' : hb.get? e = none := by
    cases q : hb.get? e with
    | none => rfl
    | some o => exact absurd rfl (hbe e o q)
  refine note_new hfr hff hf he hdt (by simp) fun h₁ tb tvs k1 k2 htb he₁ ht₁ hsz => ?_
  have hvs1 : ((#[tt, .none, hd.getD .none, .none, .bool false, .none] : Array Value).setIfInBounds 1 (.ref tb))[1]? = some (.ref tb) := by simp
  have hdm := Obj.data_mapFields hdt (·.setIfInBounds 1 (Value.ref tb))
  refine setFlight_tb (s := { s with heap := h₁ }) he₁ hdm hvs1 ht₁ hsz fun h₂ tvs₂ k3 ht₂ hsz₂ => ?_
  have htbe : tb ≠ e := fun q => by rw [q, he] at htb; cases htb
  have he₂ := (k3 e (Ne.symm htbe)).trans he₁
  -- what stays
  have stay : ∀ b o, b ∉ frs (env :: l) → b ≠ e → s.heap.get? b = some o → h₂.get? b = some o := fun b o hb1 hb2 hbo =>
    (k3 b fun q => by rw [q, htb] at hbo; cases hbo).trans (k1 b o hb1 hb2 hbo)
  have slot : ∀ b o, b ∈ frs (env :: l) → s.heap.get? b = some o → ∃ sl, h₂.get? b = some { o with slots := sl } := fun b o hb1 hbo => by
    obtain ⟨sl, hsl⟩ := k2 b o hb1 hbo
    exact ⟨sl, (k3 b fun q => by rw [q, htb] at hbo; cases hbo).trans hsl⟩
  obtain ⟨oL, es, ep, hL, hLr⟩ := hNs
  have F₂ : Fr hb L h₂ m := by
    obtain ⟨sl, hsl⟩ := slot L oL (by rw [hadr]; exact .head _) hL
    exact ⟨⟨_, es, ep, hsl, hLr⟩, fun b o hbo => stay b o (hbL b o hbo) (hbe b o hbo) (hx.keeps _ _ (F.keep b o hbo)), F.above⟩
  have htb' : hb.get? tb = none := by
    cases q : hb.get? tb with
    | none => rfl
    | some o => have := hx.keeps _ _ (F.keep tb o q); rw [htb] at this; cases this
  refine wpAny_handleBy_builtin (X := X) (T := T) (b := true) hexc hnt hsub (wpAny_passesOwnAt hE (hname { s with heap := h₂ } _ F₂ ⟨rfl, ⟨_, he₂, ?_⟩, ?_⟩))
  · obtain ⟨c, d, dt, sl⟩ := ob
    obtain rfl : dt = _ := hdt
    exact hcls
  rw [if_pos rfl]
  refine setFlight_tb (s := { s with heap := h₂ }) he₂ hdm hvs1 ht₂ hsz₂ fun h₃ tvs₃ k4 ht₃ hsz₃ => ?_
  have stay₃ : ∀ b o, b ∉ frs (env :: l) → b ≠ e → s.heap.get? b = some o → h₃.get? b = some o := fun b o hb1 hb2 hbo =>
    (k4 b fun q => by rw [q, htb] at hbo; cases hbo).trans (stay b o hb1 hb2 hbo)
  have slot₃ : ∀ b o, b ∈ frs (env :: l) → s.heap.get? b = some o → ∃ sl, h₃.get? b = some { o with slots := sl } := fun b o hb1 hbo => by
    obtain ⟨sl, hsl⟩ := slot b o hb1 hbo
    exact ⟨sl, (k4 b fun q => by rw [q, htb] at hbo; cases hbo).trans hsl⟩
  have F₃ : Fr hb L h₃ m := by
    obtain ⟨sl, hsl⟩ := slot₃ L oL (by rw [hadr]; exact .head _) hL
    exact ⟨⟨_, es, ep, hsl, hLr⟩, fun b o hbo => stay₃ b o (hbL b o hbo) (hbe b o hbo) (hx.keeps _ _ (F.keep b o hbo)), F.above⟩
  obtain ⟨fr', SU, hfr'⟩ := TI.sameUp_of (h' := h₃) (frs := fr) fun p hp =>
    slot₃ p.1 p.2 (by rw [hadr]; exact List.mem_cons_of_mem _ (List.mem_map_of_mem hp)) (hx.keeps _ _ (N p (List.mem_append_right _ hp)).1)
  refine wpAny_passesOwnAt hE (k h₃ fr' _ _ (Tt.up SU) F₃ (fun p hp => ?_) hel hdm (by simp))
  have hLf : ∀ b, h.get? b = none → b ≠ L := fun b hb q => by
    obtain ⟨o, _, _, ho, _⟩ := F.ns
    rw [← q, hb] at ho; cases ho
  rcases List.mem_cons.mp hp with rfl | hp
  · exact ⟨(k4 e (Ne.symm htbe)).trans he₂, hLf _ hx.new, hbe'⟩
  · rcases List.mem_append.mp hp with hp | hp
    · obtain ⟨p1, p2, p3⟩ := N p (List.mem_append_left _ hp)
      refine ⟨stay₃ p.1 p.2 (fun hm => ?_) (fun q => by rw [q, hx.new] at p1; cases p1) (hx.keeps _ _ p1), p2, p3⟩
      rw [frs, List.filterMap_cons, hf] at hm
      rcases List.mem_cons.mp hm with q | hm
      · exact p2 q
      · exact O p hp hm
    · obtain ⟨x, hx', q⟩ := SU.fwd p hp
      obtain ⟨_, p2, p3⟩ := N x (List.mem_append_right _ hx')
      exact ⟨hfr' p hp, by rw [q]; exact p2, by rw [q]; exact p3⟩
end
end
section
example : True := by w_top off; trivial
open PySem.Calls PySem.Spec

/-- where a call is made: what the proofs ask of it -/
structure Fits (A : Around) (D U : Nat) (l : List Env) : Prop where
  handled : A.handled = none
  depth : A.depth ≤ D
  frames : A.frames = some l
  guards : A.guards = some []
  units : A.units ≤ U
abbrev AC (D U : Nat) (l : List Env) : Around := { handled := none, depth := D, frames := some l, guards := some [], units := U }
theorem Fits.wp {α : Type} {M : Model} {A : Around} {D U : Nat} {l : List Env} {t : Sem α} {Q : α → Shared → Prop} {E : Value → Shared → Prop} {s : Shared} (f : Fits A D U l) (h : wpAny M (AC D U l) t Q E s) : wpAny M A t Q E s :=
  fun Γ p hΓ => h Γ p ⟨hΓ.1.trans f.handled, Nat.le_trans hΓ.2.1 f.depth, fun l' hl => by cases hl; exact hΓ.2.2.1 l f.frames, fun g hg => by cases hg; exact hΓ.2.2.2.1 [] f.guards, Nat.le_trans hΓ.2.2.2.2 f.units⟩
theorem Fits.code {M : Model} {A : Around} {D U : Nat} {l : List Env} {c : Code} {R : Result → Shared → Prop} {s : Shared} (f : Fits A D U l) (h : codeAny M (AC D U l) c R s) : codeAny M A c R s :=
  fun Γ p hc hΓ => h Γ p hc ⟨hΓ.1.trans f.handled, Nat.le_trans hΓ.2.1 f.depth, fun l' hl => by cases hl; exact hΓ.2.2.1 l f.frames, fun g hg => by cases hg; exact hΓ.2.2.2.1 [] f.guards, Nat.le_trans hΓ.2.2.2.2 f.units⟩

def Off (own : List (Addr × Obj)) (l : List Env) : Prop := ∀ p ∈ own, p.1 ∉ frs l
theorem Off.nil {l : List Env} : Off [] l := fun _ h => nomatch h
theorem Off.cons {l : List Env} {a : Addr} {o : Obj} {own : List (Addr × Obj)} (h : a ∉ frs l) (k : Off own l) : Off ((a, o) :: own) l
  | _, .head _ => h
  | _, .tail _ hp => k _ hp
theorem allLt_mem {a : Addr} {l : List (Addr × Obj)} (h : AllLt a l) : ∀ p ∈ l, p.1 < a := by
  induction l with
  | nil => intro p hp; cases hp
  | cons q l ih =>
    intro p hp
    cases hp with
    | head => exact h.1
    | tail _ hp => exact ih h.2 p hp
theorem allLt_app {a : Addr} {l r : List (Addr × Obj)} (h : AllLt a (l ++ r)) : AllLt a l ∧ AllLt a r := by
  induction l with
  | nil => exact ⟨trivial, h⟩
  | cons q l ih => exact ⟨⟨h.1, (ih h.2).1⟩, (ih h.2).2⟩
theorem off_new {a : Addr} {l : List Env} {own fr₁ fr : List (Addr × Obj)} (h : AllLt a (own ++ fr)) (t : Tl l fr₁ fr) : a ∉ frs l := fun hm => by
  rw [frs, t.1.addrs] at hm
  obtain ⟨p, hp, e⟩ := List.mem_map.mp hm
  have := allLt_mem (allLt_app h).2 p hp
  rw [e] at this
  exact Nat.lt_irrefl _ this
theorem off_new0 {a : Addr} {l : List Env} {fr₁ fr : List (Addr × Obj)} (h : AllLt a fr) (t : Tl l fr₁ fr) : a ∉ frs l := off_new (own := []) h t
theorem ne_of_allLt {a : Addr} {l : List (Addr × Obj)} (h : AllLt a l) : ∀ p ∈ l, p.1 ≠ a := fun p hp => Nat.ne_of_lt (allLt_mem h p hp)

/-- the ledger, cut ahead of the frames -/
def Cut (news own fr : List (Addr × Obj)) : Prop := news = own ++ fr
theorem Cut.base {own fr : List (Addr × Obj)} : Cut (own ++ fr) own fr := rfl
theorem Cut.nil {fr : List (Addr × Obj)} : Cut fr [] fr := rfl
theorem Cut.cons {p : Addr × Obj} {news own fr : List (Addr × Obj)} (h : Cut news own fr) : Cut (p :: news) (p :: own) fr := by
  unfold Cut at *; rw [h]; rfl

/-- where a called def's end leads -/
def Bk (h₀ : Heap) (L L' : Addr) (m : Str → Option Value) (env : Env) (outer : List Env) (fr₁ fr₂ : List (Addr × Obj)) : Prop :=
  ∀ (h' : Heap) (own' fr' : List (Addr × Obj)) (m' : Str → Option Value), Fr h₀ L' h' m' → News h₀ L' h' (own' ++ fr') → Tl (env :: outer) fr₂ fr' → Off own' (env :: outer) →
    ∀ P : Prop, (∀ fr'', Tl outer fr₁ fr'' → Fr h₀ L h' m → News h₀ L h' (own' ++ fr'') → Off own' outer → P) → P

theorem bk_of {h₀ h : Heap} {L L' : Addr} {m : Str → Option Value} {oL : Obj} {env : Env} {outer : List Env} {own fr₁ fr : List (Addr × Obj)} (F : Fr h₀ L h m) (N : News h₀ L h (own ++ fr)) (hL : h.get? L = some oL) (hf : env.frame = some L) (t : Tl outer fr₁ fr) :
    Bk h₀ L L' m env outer fr₁ ((L, oL) :: fr) := by
  intro h' own' fr' m' F' N' T' O' P k
  obtain ⟨Fs, SU⟩ := T'
  cases fr' with
  | nil => exact False.elim SU
  | cons q fr'' =>
    obtain ⟨q1, ⟨sl, q2⟩, SU'⟩ := SU
    have hq : q = (L, { oL with slots := sl }) := Prod.ext q1 q2
    subst hq
    have hL' := (N' _ (List.mem_append_right _ (.head _))).1
    obtain ⟨o, es, ep, ho, hd, hk, hm⟩ := F.ns
    rw [hL] at ho
    obtain rfl := Option.some.inj ho
    refine k fr'' (t.up SU') ⟨⟨_, es, ep, hL', hd, hk, hm⟩, F'.keep, F.above⟩ (fun p hp => ?_) fun p hp hm => O' p hp (by rw [frs, List.filterMap_cons, hf]; exact .tail _ hm)
    rcases List.mem_append.mp hp with hp' | hp'
    · obtain ⟨p1, p2, p3⟩ := N' p (List.mem_append_left _ hp')
      exact ⟨p1, fun e => O' p hp' (by rw [frs, List.filterMap_cons, hf, e]; exact .head _), p3⟩
    · obtain ⟨p1, p2, p3⟩ := N' p (List.mem_append_right _ (.tail _ hp'))
      obtain ⟨x, hx, qx⟩ := SU'.fwd p hp'
      exact ⟨p1, fun e => (N x (List.mem_append_right _ hx)).2.1 (qx ▸ e), p3⟩

section
variable {prog : Program} {w : World} {A : Around} {E : Value → Shared → Prop} {Q : Value → Shared → Prop} {s : Shared} {K : Frag} {h₀ : Heap} {L f : Addr} {m mg mb : Str → Option Value} {env : Env} {outer : List Env} {own fr₁ fr : List (Addr × Obj)} {p : Program} {loose : List Str} {mean : ExcName → Option Value}
  {D U : Nat} {name qual : Str} {params : Arguments} {body : List Stmt} {scope : Scope} {dV kV doc pm cdv ct oc : Value} {an od : Option Addr} {osl : Array (Option Value)} {args : Args} {binds : List (Str × Value)}

/-- a def of the text is called: its body, over the same ground -/
theorem enter (hA : Fits A D U (env :: outer)) (hf : env.frame = some L) (hk : env.scope.kind = .function) (F : Fr h₀ L s.heap m) (X : K.In h₀) (T : Top p loose mean mg mb h₀) (N : News h₀ L s.heap (own ++ fr)) (t : Tl outer fr₁ fr) (O : Off own outer)
    (ho : K.lookup f = some ⟨oc, od, .func (fnOf name qual params body scope dV kV doc pm an cdv ct), osl⟩) (hcd : codeIn K cdv qual = true) (hroom : D < recursionLimit)
    (hbind : BindsTo s (fnOf name qual params body scope dV kV doc pm an cdv ct) args binds) (hloc : ∀ y ∈ binds, scope.names.lookup y.1 = some .local)
    (h : ∀ L' h₁ fr₂, Fr h₀ L' h₁ (fun y => binds.reverse.lookup y) → News h₀ L' h₁ (own ++ fr₂) → Tl (env :: outer) fr₂ fr₂ → Off own (env :: outer) → Bk h₀ L L' m env outer fr₁ fr₂ →
      wpAny (model prog w) (AC (D + 1) (U + 3) (envOf qual scope L' f cdv :: env :: outer)) (execs body (envOf qual scope L' f cdv))
        (fun fl s' => Q (match fl with | .ret v => v | _ => .none) s')
        (fun e s' => wpAny (model prog w) (AC (D + 1) (U + 3) (envOf qual scope L' f cdv :: env :: outer)) («leaving» (envOf qual scope L' f cdv) e) (fun _ s'' => E e s'') (fun e' s'' => E e' s'') s')
        { s with heap := h₁, toks := s.toks + binds.length })
    (hco : scope.isCoroutine = false) (hgen : scope.isGenerator = false) (hks : scope.kind = .function) (hcell : ∀ x ∈ scope.names, x.2 ≠ .cell) :
    wpAny (model prog w) A (call (.ref f) args.pos args.kw) Q E s := by
  refine wpAny_call (hA.code ?_)
  obtain ⟨oL, es, ep, hL, hLd, hLk, hLf⟩ := F.ns
  have X' := X.keeps F.keep
  refine codeAny_call_def (fd := fnOf name qual params body scope dV kV doc pm an cdv ct) (body := body) (binds := binds) hroom (X' _ _ ho) rfl (T.nolimit.keeps F.keep) (codeRec_of X' hcd) rfl hbind hcell hloc (fun h₁ hns hk₁ => ?_) hco hgen hks
  have hLt := Heap.lt_size hL
  have hne : ∀ b, (s.heap.get? b).isSome = true → b ≠ s.heap.objs.size := fun b hb q => by
    rw [q, Heap.get?_none_of_le (Nat.le_refl _)] at hb; cases hb
  refine wpAny_mono (h s.heap.objs.size h₁ ((L, oL) :: fr) ⟨hns, fun b o e => hk₁ b o (F.keep b o e), Nat.le_trans F.above (Nat.le_of_lt hLt)⟩ (fun q hq => ?_) (Tl.refl ⟨by rw [hk]; decide, hf, ⟨es, ep, hLd⟩, t.1⟩) (fun q hq hm => ?_) (bk_of F N hL hf t)) (fun fl s' hq => hq) fun _ _ x => x
  · rcases List.mem_append.mp hq with hq | hq
    · obtain ⟨a, b, c⟩ := N q (List.mem_append_left _ hq)
      exact ⟨hk₁ _ _ a, hne _ (by rw [a]; rfl), c⟩
    · rcases List.mem_cons.mp hq with e | hq
      · rw [e]
        exact ⟨hk₁ _ _ hL, Nat.ne_of_lt hLt, Heap.get?_none_of_le F.above⟩
      · obtain ⟨a, b, c⟩ := N q (List.mem_append_right _ hq)
        exact ⟨hk₁ _ _ a, hne _ (by rw [a]; rfl), c⟩
  · rw [frs, List.filterMap_cons, hf] at hm
    rcases List.mem_cons.mp hm with e | hm
    · exact (N q (List.mem_append_left _ hq)).2.1 e
    · exact O q hq hm
end
end
local macro_rules | `(tactic| walk_at "none") => `(tactic| fail)
section
example : True := by w_top off; trivial
open PySem.Calls PySem.Spec PyProof.Rows

/-- the law's heap, written out -/

example : (∀ P, Mine.hd.heap_39 P = Mine.hd.heap_39 P) ∧ PySem.Challenge.rw_vj0003_01.foot = PySem.Challenge.rw_vj0003_01.foot := by
  k_fill
  exact ⟨fun _ => rfl, rfl⟩

/-- locals: some names known, the rest as they are -/
def kb : List (Str × Value) → (Str → Option Value) → Str → Option Value
  | [], u => u
  | (n, v) :: r, u => fun y => if y = n then some v else kb r u y
def kbOk (m : Str → Option Value) : List (Str × Value) → Prop
  | [] => True
  | (n, v) :: r => m n = some v ∧ kbOk m r
theorem kb_self {m : Str → Option Value} : ∀ {ps : List (Str × Value)}, kbOk m ps → kb ps m = m
  | [], _ => rfl
  | (n, v) :: r, h => by
    funext y
    unfold kb
    by_cases e : y = n
    · rw [if_pos e, e]; exact h.1.symm
    · rw [if_neg e, kb_self h.2]

def bs (xs : List Value) (x : Value) : Nat → Nat → Nat → Nat ⊕ Nat
  | 0, lo, _ => .inl lo
  | f + 1, lo, hi => if lo < hi then
      match ltV (xs.getD ((lo + hi) / 2) .none) x with
      | some true => bs xs x f ((lo + hi) / 2 + 1) hi
      | some false => bs xs x f lo ((lo + hi) / 2)
      | none => .inr hi
    else .inl lo
def ls (xs : List Value) (x : Value) : Nat → Nat → Nat → Bool → Nat
  | 0, lo, _, _ => lo
  | f + 1, lo, hi, c => if lo < hi then
      if eqV (xs.getD lo .none) x then lo else
      match ltV (xs.getD lo .none) x with
      | some true => ls xs x f (lo + 1) hi true
      | some false => lo
      | none => if c then lo else ls xs x f (lo + 1) hi c
    else lo
def find (xs : List Value) (x : Value) : Nat :=
  match bs xs x (xs.length + 1) 0 xs.length with
  | .inl lo => lo
  | .inr hi => ls xs x (hi + 1) 0 hi false

theorem bs_fuel (xs : List Value) (x : Value) : ∀ (f g lo hi : Nat), hi - lo ≤ f → hi - lo ≤ g → bs xs x f lo hi = bs xs x g lo hi := by
  intro f
  induction f with
  | zero =>
    intro g lo hi h1 h2
    cases g with
    | zero => rfl
    | succ g => unfold bs; rw [if_neg (by omega)]
  | succ f ih =>
    intro g lo hi h1 h2
    cases g with
    | zero => unfold bs; rw [if_neg (by omega)]
    | succ g =>
      unfold bs
      by_cases hl : lo < hi
      · rw [if_pos hl, if_pos hl]
        cases ltV (xs.getD ((lo + hi) / 2) .none) x with
        | none => rfl
        | some r =>
          cases r with
          | true => exact ih g _ _ (by omega) (by omega)
          | false => exact ih g _ _ (by omega) (by omega)
      · rw [if_neg hl, if_neg hl]
theorem ls_fuel (xs : List Value) (x : Value) : ∀ (f g lo hi : Nat) (c : Bool), hi - lo ≤ f → hi - lo ≤ g → ls xs x f lo hi c = ls xs x g lo hi c := by
  intro f
  induction f with
  | zero =>
    intro g lo hi c h1 h2
    cases g with
    | zero => rfl
    | succ g => unfold ls; rw [if_neg (by omega)]
  | succ f ih =>
    intro g lo hi c h1 h2
    cases g with
    | zero => unfold ls; rw [if_neg (by omega)]
    | succ g =>
      unfold ls
      by_cases hl : lo < hi
      · rw [if_pos hl, if_pos hl]
        split
        · rfl
        · cases ltV (xs.getD lo .none) x with
          | none =>
            cases c with
            | true => rfl
            | false => exact ih g _ _ _ (by omega) (by omega)
          | some r =>
            cases r with
            | true => exact ih g _ _ _ (by omega) (by omega)
            | false => rfl
      · rw [if_neg hl, if_neg hl]
theorem bs_lo {xs : List Value} {x : Value} {lo hi : Nat} (h : lo < hi) (q : ltV (xs.getD ((lo + hi) / 2) .none) x = some true) : bs xs x (hi - ((lo + hi) / 2 + 1) + 1) ((lo + hi) / 2 + 1) hi = bs xs x (hi - lo + 1) lo hi := by
  rw [bs_fuel xs x _ (hi - lo) _ _ (by omega) (by omega)]
  conv => rhs; unfold bs
  rw [if_pos h, q]
theorem bs_hi {xs : List Value} {x : Value} {lo hi : Nat} (h : lo < hi) (q : ltV (xs.getD ((lo + hi) / 2) .none) x = some false) : bs xs x ((lo + hi) / 2 - lo + 1) lo ((lo + hi) / 2) = bs xs x (hi - lo + 1) lo hi := by
  rw [bs_fuel xs x _ (hi - lo) _ _ (by omega) (by omega)]
  conv => rhs; unfold bs
  rw [if_pos h, q]
theorem find_lo {xs : List Value} {x : Value} {lo hi : Nat} (h : ¬ lo < hi) (e : bs xs x (hi - lo + 1) lo hi = bs xs x (xs.length + 1) 0 xs.length) : find xs x = lo := by
  unfold find
  rw [← e]
  unfold bs
  rw [if_neg h]
theorem find_te {xs : List Value} {x : Value} {lo hi : Nat} (h : lo < hi) (q : ltV (xs.getD ((lo + hi) / 2) .none) x = none) (e : bs xs x (hi - lo + 1) lo hi = bs xs x (xs.length + 1) 0 xs.length) : find xs x = ls xs x (hi + 1) 0 hi false := by
  unfold find
  rw [← e]
  unfold bs
  rw [if_pos h, q]

section
variable {xs : List Value} {x : Value} {n lo hi : Nat} {c : Bool}
theorem ls_end (h : ¬ lo < hi) : ls xs x (n + 1) lo hi c = lo := by unfold ls; rw [if_neg h]
theorem ls_eq (h : lo < hi) (q : eqV (xs.getD lo .none) x = true) : ls xs x (n + 1) lo hi c = lo := by unfold ls; rw [if_pos h, if_pos q]
theorem ls_ge (h : lo < hi) (q : eqV (xs.getD lo .none) x = false) (r : ltV (xs.getD lo .none) x = some false) : ls xs x (n + 1) lo hi c = lo := by unfold ls; rw [if_pos h, if_neg (by rw [q]; decide), r]
theorem ls_brk (h : lo < hi) (q : eqV (xs.getD lo .none) x = false) (r : ltV (xs.getD lo .none) x = none) (hc : c = true) : ls xs x (n + 1) lo hi c = lo := by unfold ls; rw [if_pos h, if_neg (by rw [q]; decide), r, hc]; rfl
theorem ls_lt (h : lo < hi) (q : eqV (xs.getD lo .none) x = false) (r : ltV (xs.getD lo .none) x = some true) : ls xs x (hi - (lo + 1) + 1) (lo + 1) hi true = ls xs x (hi - lo + 1) lo hi c := by
  rw [ls_fuel xs x _ (hi - lo) _ _ _ (by omega) (by omega)]
  conv => rhs; unfold ls
  rw [if_pos h, if_neg (by rw [q]; decide), r]
theorem ls_skip (h : lo < hi) (q : eqV (xs.getD lo .none) x = false) (r : ltV (xs.getD lo .none) x = none) (hc : c = false) : ls xs x (hi - (lo + 1) + 1) (lo + 1) hi c = ls xs x (hi - lo + 1) lo hi c := by
  rw [ls_fuel xs x _ (hi - lo) _ _ _ (by omega) (by omega)]
  conv => rhs; unfold ls
  rw [if_pos h, if_neg (by rw [q]; decide), r, hc]; rfl
end

section
variable {prog : Program} {w : World} {A : Around} {E : Value → Shared → Prop} {Q : Value → Shared → Prop} {s : Shared}
theorem item_led {h₀ : Heap} {L l : Addr} {news : List (Addr × Obj)} {xs : List Value} {n k : Nat} {value slice : PySem.Expr} {i : Int} {u : Tok} (N : News h₀ L s.heap news) (hl : (l, listOf xs.toArray n) ∈ news) (hi : i = (k : Int)) (hk : k < xs.length) (hz : xs.length ≤ 1000)
    (h : Q (xs.getD k .none) s) (hs : subscripted slice false (.ref l) (.int i u) = operate [.ref l, .int i u] (getItem (.ref l) (.int i u)) := by with_unfolding_all rfl) :
    wpAny (model prog w) A (subscriptTail value slice (.ref l) (.int i u)) Q E s := by
  subst hi
  have il : s.heap.IsList l xs.toArray := ⟨_, (N _ hl).1, rfl, n, rfl⟩
  refine tail_any il.typeIs slot_list_getitem.lookup (wpAny_getItem_list (x := xs.getD k .none) il (by omega) (by omega) ?_ h) hs
  simp [List.getD, hk]
theorem len_led {h₀ : Heap} {L l : Addr} {news : List (Addr × Obj)} {xs : List Value} {n : Nat} (N : News h₀ L s.heap news) (hl : (l, listOf xs.toArray n) ∈ news) (hz : xs.length ≤ 1000)
    (h : Q (.int (xs.length : Nat) (s.toks + 1)) { s with toks := s.toks + 1 + 1 }) : wpAny (model prog w) A (call (.builtin "len") [.ref l]) Q E s := by
  have il : s.heap.IsList l xs.toArray := ⟨_, (N _ hl).1, rfl, n, rfl⟩
  have e : xs.toArray.size = xs.length := by simp
  refine Calls.call_len_list il (by omega) ?_
  rw [e]
  exact h
end

def Hold (P : Prop) : Prop := P
theorem Hold.of {P : Prop} (h : Hold P) : P := h
theorem fdiv2 (a b : Nat) : Int.fdiv ((a : Int) + (b : Int)) 2 = (((a + b) / 2 : Nat) : Int) := by
  rw [Int.fdiv_eq_ediv_of_nonneg _ (by decide)]
  omega
theorem th_getD {xs : List Value} (h : ∀ y ∈ xs, Th y) (k : Nat) : Th (xs.getD k .none) := by
  rw [List.getD_eq_getElem?_getD]
  cases q : xs[k]? with
  | none => exact .none
  | some y => exact h y (List.mem_of_getElem? q)
local macro_rules | `(tactic| k_mem) => `(tactic| (refine List.mem_append_left _ ?_; with_reducible assumption))
local macro_rules | `(tactic| walk_at "subscriptTail") => `(tactic| (k_here; (with_reducible show wpAny _ _ (subscriptTail _ _ (Value.ref _) (Value.int _ _)) _ _ _); (with_unfolding_all refine' item_led (by k_asm) (by k_mem) ?k1 ?k2 (by assumption) ?_; (case k1 => first | exact rfl | exact fdiv2 _ _); (case k2 => omega))))
local macro_rules | `(tactic| walk_at "call builtin:len") => `(tactic| (k_here; (with_reducible show wpAny _ _ (call (Value.builtin _) [Value.ref _]) _ _ _); (with_unfolding_all refine' len_led (by k_asm) (by k_mem) (by assumption) ?_)))
local macro_rules | `(tactic| walk_at "exec While Compare cons nil") => `(tactic| refine Hold.of ?_)
local macro_rules | `(tactic| walk_at "Hold") => `(tactic| fail "held")
local macro_rules | `(tactic| tb_start) => `(tactic| first | with_reducible assumption | exact th_getD (by with_reducible assumption) _)
local macro_rules | `(tactic| tb_rel) => `(tactic| first | exact Or.inl rfl | exact Or.inr ⟨_, _, _, rfl, (News.get (by with_reducible assumption) (List.Mem.head _)), by with_reducible assumption, by with_reducible assumption⟩)
local macro_rules | `(tactic| walk_at "compareOp Lt") => `(tactic| (k_here; (with_reducible refine th_lt ?ka ?kb ?kc (fun r hr => ?_) (fun hr h' tk' e' x' => Hold.of ?_)); (case ka => tb_start); (case kb => tb_start); (case kc => tb_rel)))
local macro_rules | `(tactic| walk_at "compareOp GtE") => `(tactic| (k_here; (with_reducible refine th_ge ?ka ?kb ?kc (fun r hr => ?_) (fun hr h' tk' e' x' => Hold.of ?_)); (case ka => tb_start); (case kb => tb_start); (case kc => tb_rel)))
local macro_rules | `(tactic| walk_at "compareOp Eq") => `(tactic| (k_here; (with_reducible refine th_eq ?ka ?kb ?_); (case ka => tb_start); (case kb => tb_start)))
local macro_rules | `(tactic| walk_at "compareOp NotEq") => `(tactic| (k_here; (with_reducible refine th_ne ?ka ?kb ?_); (case ka => tb_start); (case kb => tb_start)))
local macro_rules | `(tactic| ktr_unf) => `(tactic| repeat' (first | (k_unfold; (try dsimp only)) | walk1 | (dsimp only; walk1)))

theorem c_find {prog : Program} {w : World} {A : Around} {E Q : Value → Shared → Prop} {s : Shared} {h₀ : Heap} {L S D Ls : Addr} {m mg mb : Str → Option Value} {env : Env} {outer : List Env} {own fr₁ fr : List (Addr × Obj)} {p : Program} {loose : List Str} {mean : ExcName → Option Value}
    {xs : List Value} {n : Nat} {x : Value} {hsh : Int} {tk : Tok}
    (hA : Fits A 390 900 (env :: outer)) (hf : env.frame = some L) (hk : env.scope.kind = .function) (F : Fr h₀ L s.heap m) (X : (Mine.hd.heap_39 w.params).In h₀) (T : Top p loose mean mg mb h₀) (N : News h₀ L s.heap (own ++ fr)) (t : Tl outer fr₁ fr) (O : Off own outer)
    (hS : (S, instObj 306 D) ∈ own) (hD : (D, dictOf [⟨hsh, .str "_items" tk, .ref Ls⟩] 1) ∈ own) (hL : (Ls, listOf xs.toArray n) ∈ own) (hx : Th x) (hxs : ∀ y ∈ xs, Th y) (hz : xs.length ≤ 1000)
    (k : ∀ (tk : Tok) (h' : Heap) (tk' : Nat) (fr' : List (Addr × Obj)), Tl outer fr₁ fr' → Fr h₀ L h' m → News h₀ L h' (own ++ fr') → Q (.int (find xs x : Nat) tk) { s with heap := h', toks := tk' }) :
    wpAny (model prog w) A (call (.ref 303) [.ref S, x]) Q E s := by
  refine enter (K := Mine.hd.heap_39 w.params) (args := ⟨[.ref S, x], []⟩) (binds := [("self", .ref S), ("x", x)]) hA hf hk F X T N t O (by k_is) (by k_is) (by decide) (BindsTo.of_eq rfl) (locs rfl) ?_ rfl rfl rfl (by decide)
  intro L' h₁ fr₂ F' N' t' O' bk
  refine PySem.wpAny_noRaise ?_
  try dsimp only
  clear F N
  ktr_unf
  unfold Hold
  refine While_inv2 (fun n' m' nx => nx = own ++ fr₂ ∧ ∃ (lo hi : Nat) (tl th : Tok) (u : Str → Option Value), n' = hi - lo ∧ lo ≤ hi ∧ hi ≤ xs.length ∧ bs xs x (n' + 1) lo hi = bs xs x (xs.length + 1) 0 xs.length ∧
    m' = kb [("lo", .int lo tl), ("hi", .int hi th), ("a", .ref Ls), ("x", x), ("self", .ref S)] u) (n₀ := xs.length) (by with_reducible assumption) (by with_reducible assumption) ⟨rfl, 0, xs.length, _, _, _, rfl, Nat.zero_le _, Nat.le_refl _, rfl, (kb_self (by exact ⟨rfl, rfl, rfl, rfl, rfl, trivial⟩)).symm⟩ ?_ (by passes_own)
  rintro n' m' nx h₂ tk₂ F₂ N₂ ⟨rfl, lo, hi, tl, th, u, rfl, hle, hlen, hbs, rfl⟩
  (rename Fr h₀ L' _ _ => FX; rename News h₀ L' _ _ => NX)
  ktr_unf
  · rename (Int.ofNat lo < Int.ofNat hi) => hlt
    rename (_ = (_ : Bool)) => hr1
    rename (ltV _ _ = some _) => hr
    rename Fr h₀ L' _ _ => F3
    rename News h₀ L' _ _ => N3
    rw [hr1] at hr
    exact ⟨_, _, _, _, hi - ((lo + hi) / 2 + 1), rfl, F3, N3, by omega, rfl, (lo + hi) / 2 + 1, hi, _, _, _, rfl, by omega, by omega, (bs_lo (by omega) hr).trans hbs, (kb_self (by exact ⟨by show some (Value.int (Int.fdiv ((lo : Int) + (hi : Int)) 2 + 1) _) = _; rw [fdiv2]; rfl, rfl, rfl, rfl, rfl, trivial⟩)).symm⟩
  · rename (Int.ofNat lo < Int.ofNat hi) => hlt
    rename (_ = (_ : Bool)) => hr1
    rename (ltV _ _ = some _) => hr
    rename Fr h₀ L' _ _ => F3
    rename News h₀ L' _ _ => N3
    rw [hr1] at hr
    exact ⟨_, _, _, _, (lo + hi) / 2 - lo, rfl, F3, N3, by omega, rfl, lo, (lo + hi) / 2, _, _, _, rfl, by omega, by omega, (bs_hi (by omega) hr).trans hbs, (kb_self (by exact ⟨rfl, by show some (Value.int (Int.fdiv ((lo : Int) + (hi : Int)) 2) _) = _; rw [fdiv2], rfl, rfl, rfl, trivial⟩)).symm⟩
  · unfold Hold
    rename NewX _ _ _ _ _ => x'
    rename Addr => e₀
    rename ltV _ _ = none => hr
    rename (Int.ofNat lo < Int.ofNat hi) => hlt
    rename Fr h₀ L' _ _ => F3
    rename News h₀ L' _ _ => N3
    refine catch_new (T := "TypeError") rfl rfl rfl t' x' F3 N3 O' (fun s' Q' F' q => name_B F' X (topRead_of T) (by k_is) PyProof.Rows.Boot.«TypeError» (by decide) q) PySem.F.isExc_TypeError PySem.F.notTuple_TypeError (by rw [isSubtype_type]; kernel_rfl) (fun h₃ fr₃ oe vs t₃ F₄ N₄ he₀ hoe hvs => ?_) (by passes_own)
    clear x' F3 N3
    have hfd := find_te (by omega) hr hbs
    have hvs' : vs[2]? = some .none := hvs
    clear hvs
    ktr_unf
    unfold Hold
    refine While_inv2 (fun n' m' nx => ∃ fr₄, nx = (e₀, oe) :: (own ++ fr₄) ∧ Tl (env :: outer) fr₂ fr₄ ∧ ∃ (l1 : Nat) (c : Bool) (tl th : Tok) (u : Str → Option Value), n' = hi - l1 ∧ l1 ≤ hi ∧ ls xs x (n' + 1) l1 hi c = ls xs x (hi + 1) 0 hi false ∧
      m' = kb [("lo", .int l1 tl), ("hi", .int hi th), ("compared_one", .bool c), ("a", .ref Ls), ("x", x), ("self", .ref S)] u) (n₀ := hi) (by with_reducible assumption) (by with_reducible assumption)
      ⟨fr₃, rfl, t₃, 0, false, _, _, _, rfl, Nat.zero_le _, rfl, (kb_self (by exact ⟨rfl, rfl, rfl, rfl, rfl, rfl, trivial⟩)).symm⟩ ?_ (by passes_own)
    (rename Fr h₀ L' _ _ => FX; rename News h₀ L' _ _ => NX; clear FX NX)
    rintro n' m' nx h₅ tk₅ F₅ N₅ ⟨fr₄, rfl, t₄, l1, c, tl', th', u', rfl, hl1, hls, rfl⟩
    ktr_unf
    · rename (Int.ofNat l1 < Int.ofNat hi) => hlt1
      rename (eqV _ _ = true) => he
      have e9 : find xs x = l1 := (hfd.trans hls.symm).trans (ls_eq (by omega) he)
      dsimp only [WhileStep2]
      ktr_unf
      show Q (.int l1 tl') _
      have N₆ : News h₀ L' _ (own ++ fr₄) := fun p hp => N₅ p (.tail _ hp)
      refine bk _ _ _ _ F₅ N₆ t₄ O' _ fun fr'' T'' F'' N'' _ => ?_
      exact e9 ▸ k _ _ _ _ T'' F'' N''
    · rename (Int.ofNat l1 < Int.ofNat hi) => hlt1
      rename (eqV _ _ = false) => he
      rename (_ = (_ : Bool)) => hr1
      rename (ltV _ _ = some _) => hr2
      rename Fr h₀ L' _ _ => F3
      rename News h₀ L' _ _ => N3
      rw [hr1] at hr2
      exact ⟨_, _, _, _, hi - (l1 + 1), rfl, F3, N3, by omega, fr₄, rfl, t₄, l1 + 1, true, _, _, _, rfl, by omega, (ls_lt (by omega) he hr2).trans hls, (kb_self (by exact ⟨rfl, rfl, rfl, rfl, rfl, rfl, trivial⟩)).symm⟩
    · rename (Int.ofNat l1 < Int.ofNat hi) => hlt1
      rename (eqV _ _ = false) => he
      rename (_ = (_ : Bool)) => hr1
      rename (ltV _ _ = some _) => hr2
      rw [hr1] at hr2
      have e9 : find xs x = l1 := (hfd.trans hls.symm).trans (ls_ge (by omega) he hr2)
      dsimp only [WhileStep2]
      ktr_unf
      show Q (.int l1 tl') _
      have N₆ : News h₀ L' _ (own ++ fr₄) := fun p hp => N₅ p (.tail _ hp)
      refine bk _ _ _ _ F₅ N₆ t₄ O' _ fun fr'' T'' F'' N'' _ => ?_
      exact e9 ▸ k _ _ _ _ T'' F'' N''
    · unfold Hold
      rename (Int.ofNat l1 < Int.ofNat hi) => hlt1
      rename (eqV _ _ = false) => he
      rename (ltV _ _ = none) => hr2
      rename NewX _ _ _ _ _ => x2
      refine catch_new (own := (e₀, oe) :: own) (T := "TypeError") rfl rfl rfl t₄ x2 F₅ N₅ (Off.cons he₀ O') (fun s' Q' F' q => name_B F' X (topRead_of T) (by k_is) PyProof.Rows.Boot.«TypeError» (by decide) q) PySem.F.isExc_TypeError PySem.F.notTuple_TypeError (by rw [isSubtype_type]; kernel_rfl) (fun h₆ fr₆ oe₆ vs₆ t₆ F₆ N₆ _ _ _ => ?_) (by passes_own)
      clear x2 F₅ N₅
      ktr_unf
      · rename (c = true) => hc
        have e9 : find xs x = l1 := (hfd.trans hls.symm).trans (ls_brk (by omega) he hr2 hc)
        dsimp only [WhileStep2]
        ktr_unf
        show Q (.int l1 tl') _
        have N₇ : News h₀ L' _ (own ++ fr₆) := fun p hp => N₆ p (.tail _ (.tail _ hp))
        refine bk _ _ _ _ F₆ N₇ t₆ O' _ fun fr'' T'' F'' N'' _ => ?_
        exact e9 ▸ k _ _ _ _ T'' F'' N''
      · rename (c = false) => hc
        rename Fr h₀ L' _ _ => F3
        rename News h₀ L' _ _ => N3
        exact ⟨_, _, _, (e₀, oe) :: (own ++ fr₆), hi - (l1 + 1), rfl, F3, fun p hp => N3 p (.tail _ hp), by omega, fr₆, rfl, t₆, l1 + 1, c, _, _, _, rfl, by omega, (ls_skip (by omega) he hr2 hc).trans hls, (kb_self (by exact ⟨rfl, rfl, rfl, rfl, rfl, rfl, trivial⟩)).symm⟩
    · rename (¬ Int.ofNat l1 < Int.ofNat hi) => hlt1
      have e9 : find xs x = l1 := (hfd.trans hls.symm).trans (ls_end (by omega))
      show Q (.int l1 tl') _
      have N₆ : News h₀ L' _ (own ++ fr₄) := fun p hp => N₅ p (.tail _ hp)
      refine bk _ _ _ _ F₅ N₆ t₄ O' _ fun fr'' T'' F'' N'' _ => ?_
      exact e9 ▸ k _ _ _ _ T'' F'' N''
  · rename (¬ Int.ofNat lo < Int.ofNat hi) => hlt
    show Q (.int lo tl) _
    refine bk _ _ _ _ FX NX t' O' _ fun fr'' T'' F'' N'' _ => ?_
    have e := find_lo (by omega) hbs
    subst e
    exact k _ _ _ _ T'' F'' N''
end
local macro_rules | `(tactic| walk_at "none") => `(tactic| fail)
local macro_rules | `(tactic| walk_at "none") => `(tactic| fail)
local macro_rules | `(tactic| walk_at "none") => `(tactic| fail)
local macro_rules | `(tactic| walk_at "none") => `(tactic| fail)
local macro_rules | `(tactic| walk_at "none") => `(tactic| fail)
local macro_rules | `(tactic| walk_at "none") => `(tactic| fail)
local macro_rules | `(tactic| walk_at "none") => `(tactic| fail)
local macro_rules | `(tactic| walk_at "none") => `(tactic| fail)
local macro_rules | `(tactic| walk_at "none") => `(tactic| fail)
section
example : True := by w_top off; trivial
open PySem.Calls PySem.Spec PyProof.Rows

abbrev Led := List (Addr × Obj)
/-- the members stay, but the one at a -/
def Kp (a : Addr) (own own' : Led) : Prop := ∀ p ∈ own, p.1 ≠ a → p ∈ own'
/-- the members stay -/
def Kq (own own' : Led) : Prop := ∀ p ∈ own, p ∈ own'
/-- a is new over own -/
def New (own : Led) (a : Addr) : Prop := ∀ p ∈ own, p.1 ≠ a
theorem Kq.refl {own : Led} : Kq own own := fun _ h => h
theorem Kq.kp {own own' : Led} {a : Addr} (h : Kq own own') : Kp a own own' := fun p hp _ => h p hp
theorem Kp.refl {a : Addr} {own : Led} : Kp a own own := fun _ h _ => h
theorem Kp.trans {a : Addr} {x y z : Led} (h : Kp a x y) (k : Kp a y z) : Kp a x z := fun p hp n => k p (h p hp n) n
theorem Kq.trans {x y z : Led} (h : Kq x y) (k : Kq y z) : Kq x z := fun p hp => k p (h p hp)
theorem Kp.then {a : Addr} {x y z : Led} (h : Kp a x y) (k : Kq y z) : Kp a x z := fun p hp n => k p (h p hp n)
theorem Kq.then {a : Addr} {x y z : Led} (h : Kq x y) (k : Kp a y z) : Kp a x z := fun p hp n => k p (h p hp) n
theorem Kq.cons {p : Addr × Obj} {own : Led} : Kq own (p :: own) := fun _ h => .tail _ h
theorem Kp.mem {a : Addr} {own own' : Led} {p : Addr × Obj} (h : Kp a own own') (hp : p ∈ own) (n : p.1 ≠ a) : p ∈ own' := h p hp n
theorem Kq.mem {own own' : Led} {p : Addr × Obj} (h : Kq own own') (hp : p ∈ own) : p ∈ own' := h p hp
theorem New.ne {own : Led} {a b : Addr} {o : Obj} (h : New own a) (hb : (b, o) ∈ own) : b ≠ a := h _ hb
/-- a new over own is new to what own had before -/
theorem New.below {own own₁ : Led} {a : Addr} (h : New own₁ a) (k : Kq own own₁) : New own a := fun p hp => h p (k p hp)
theorem New.belowP {own own₁ : Led} {a b : Addr} (h : New own₁ a) (k : Kp b own own₁) (hb : b ≠ a) : New own a := fun p hp => by
  by_cases e : p.1 = b
  · rw [e]; exact hb
  · exact h p (k p hp e)
/-- a member's thing is turned -/
def upd (a : Addr) (o : Obj) (own : Led) : Led := own.map fun p => if p.1 = a then (a, o) else p
theorem upd_kp {a : Addr} {o : Obj} {own : Led} : Kp a own (upd a o own) := fun p hp n => List.mem_map.mpr ⟨p, hp, if_neg n⟩
theorem upd_mem {a : Addr} {o o' : Obj} {own : Led} (h : (a, o') ∈ own) : (a, o) ∈ upd a o own := List.mem_map.mpr ⟨_, h, if_pos rfl⟩
theorem upd_off {a : Addr} {o o' : Obj} {own : Led} {l : List Env} (h : (a, o') ∈ own) (O : Off own l) : Off (upd a o own) l := fun p hp => by
  obtain ⟨q, hq, e⟩ := List.mem_map.mp hp
  by_cases hqa : q.1 = a
  · rw [if_pos hqa] at e
    rw [← e]
    show a ∉ frs l
    exact O (a, o') h
  · rw [if_neg hqa] at e
    rw [← e]
    exact O _ hq
theorem upd_news {h₀ h h' : Heap} {L a : Addr} {own fr fr₁ : Led} {l : List Env} {o o' : Obj} (N : News h₀ L h (own ++ fr)) (ha : (a, o') ∈ own) (t : Tl l fr₁ fr) (O : Off own l)
    (e : h'.get? a = some o) (k : ∀ b, b ≠ a → h'.get? b = h.get? b) : News h₀ L h' (upd a o own ++ fr) := by
  have h1 := N _ (List.mem_append_left _ ha)
  intro p hp
  rcases List.mem_append.mp hp with hp | hp
  · obtain ⟨q, hq, e'⟩ := List.mem_map.mp hp
    by_cases hqa : q.1 = a
    · rw [if_pos hqa] at e'
      rw [← e']
      exact ⟨e, h1.2⟩
    · rw [if_neg hqa] at e'
      rw [← e']
      have h2 := N _ (List.mem_append_left _ hq)
      exact ⟨(k _ hqa).trans h2.1, h2.2⟩
  · have h2 := N _ (List.mem_append_right _ hp)
    refine ⟨(k _ fun q => O _ ha ?_).trans h2.1, h2.2⟩
    rw [frs, t.1.addrs]
    show a ∈ _
    rw [← q]
    exact List.mem_map_of_mem hp
theorem fr_upd {h₀ h h' : Heap} {L a : Addr} {m : Str → Option Value} {own : Led} {o' : Obj} (F : Fr h₀ L h m) (N : News h₀ L h own) (ha : (a, o') ∈ own) (k : ∀ b, b ≠ a → h'.get? b = h.get? b) : Fr h₀ L h' m := by
  have h1 := N _ ha
  obtain ⟨o, es, ep, ho, r⟩ := F.ns
  refine ⟨⟨o, es, ep, (k L fun q => h1.2.1 q.symm).trans ho, r⟩, fun b ob hb => (k b fun q => ?_).trans (F.keep b ob hb), F.above⟩
  have h2 := h1.2.2
  rw [q] at hb
  rw [h2] at hb
  cases hb

/-- two members of different kind lie apart -/
theorem ne_of_objs {h₀ h : Heap} {L a b : Addr} {own : Led} {o o' : Obj} (N : News h₀ L h own) (ha : (a, o) ∈ own) (hb : (b, o') ∈ own) (n : o ≠ o') : a ≠ b := fun e => by
  subst e
  have h1 := (N _ ha).1
  have h2 := (N _ hb).1
  exact n (Option.some.inj (h1.symm.trans h2))

structure SetAt (own : Led) (S D Ls : Addr) (xs : List Value) : Prop where
  hS : (S, instObj 306 D) ∈ own
  hD : ∃ hsh tk, (D, dictOf [⟨hsh, .str "_items" tk, .ref Ls⟩] 1) ∈ own
  hL : ∃ n, (Ls, listOf xs.toArray n) ∈ own
  th : ∀ y ∈ xs, Th y
  n1 : S ≠ Ls
  n2 : D ≠ Ls
  n3 : S ≠ D
structure NewSet (own own' : Led) (v : Value) (xs : List Value) : Prop where
  intro ::
  has : ∃ S D Ls, v = .ref S ∧ SetAt own' S D Ls xs ∧ Kq own own' ∧ New own S ∧ New own D ∧ New own Ls

/-- what a def answers, called with args over own -/
def Con (w : World) (f : Addr) (D U : Nat) (args : List Value) (own : Led) (R : Value → Led → Prop) : Prop :=
  ∀ {prog : Program} {A : Around} {E Q : Value → Shared → Prop} {s : Shared} {h₀ : Heap} {L : Addr} {m mg mb : Str → Option Value} {env : Env} {outer : List Env} {fr₁ fr : Led} {p : Program} {loose : List Str} {mean : ExcName → Option Value},
    Fits A D U (env :: outer) → env.frame = some L → env.scope.kind = .function → Fr h₀ L s.heap m → (Mine.hd.heap_39 w.params).In h₀ → Top p loose mean mg mb h₀ → News h₀ L s.heap (own ++ fr) → Tl outer fr₁ fr → Off own outer →
    (∀ (v : Value) (h' : Heap) (tk' : Nat) (own' fr' : Led), Tl outer fr₁ fr' → Fr h₀ L h' m → News h₀ L h' (own' ++ fr') → Off own' outer → R v own' → Q v { s with heap := h', toks := tk' }) →
    wpAny (model prog w) A (call (.ref f) args) Q E s
theorem Con.use {w : World} {f : Addr} {D U : Nat} {args : List Value} {own : Led} {R : Value → Led → Prop} (c : Con w f D U args own R)
    {prog : Program} {A : Around} {E Q : Value → Shared → Prop} {s : Shared} {h₀ : Heap} {L : Addr} {m mg mb : Str → Option Value} {env : Env} {outer : List Env} {fr₁ fr news : Led} {p : Program} {loose : List Str} {mean : ExcName → Option Value}
    (hA : Fits A D U (env :: outer)) (hf : env.frame = some L) (hk : env.scope.kind = .function) (F : Fr h₀ L s.heap m) (X : (Mine.hd.heap_39 w.params).In h₀) (T : Top p loose mean mg mb h₀) (N : News h₀ L s.heap news) (hc : Cut news own fr) (t : Tl outer fr₁ fr) (O : Off own outer)
    (k : ∀ (v : Value) (h' : Heap) (tk' : Nat) (own' fr' : Led), Tl outer fr₁ fr' → Fr h₀ L h' m → News h₀ L h' (own' ++ fr') → Off own' outer → R v own' → Q v { s with heap := h', toks := tk' }) :
    wpAny (model prog w) A (call (.ref f) args) Q E s := by
  unfold Cut at hc
  subst hc
  exact c hA hf hk F X T N t O k

/-- a turn's end of a loop that turns the thing at a -/
def TurnEnd (h₀ : Heap) (L : Addr) (outer : List Env) (fr₁ : Led) (a : Addr) (own₂ : Led) (J : (Str → Option Value) → Obj → Prop) (s₁ : Shared) (Q : Flow → Shared → Prop) (f : Flow) (s₂ : Shared) : Prop :=
  match f with
  | .ret v => Q (.ret v) s₂
  | .brk => Q .next s₂
  | _ => ∃ h' tk m' own' fr' o', s₂ = { s₁ with heap := h', toks := tk } ∧ Fr h₀ L h' m' ∧ News h₀ L h' (own' ++ fr') ∧ Tl outer fr₁ fr' ∧ Off own' outer ∧ Kp a own₂ own' ∧ (a, o') ∈ own' ∧ J m' o'

section
variable {prog : Program} {w : World} {A : Around} {E : Value → Shared → Prop} {s : Shared} {env : Env} {h₀ : Heap} {x : Str} {body : List Stmt} {Q : Flow → Shared → Prop}

def itObj (l : Addr) : Obj := { cls := .type "list_iterator", data := .fields #[.ref l, .int 0 0] }

theorem loop_at {I l a : Addr} {vs : List Value} {nn : Nat} {m₀ : Str → Option Value} {outer : List Env} {own fr₁ fr : Led} {o : Obj} (J : Nat → (Str → Option Value) → Obj → Prop)
    (hh : A.handled = none) (hI : s.heap.get? I = some (itObj l)) (hI0 : h₀.get? I = none) (hIL : I ≠ env.locals) (nI : New own I) (oI : I ∉ frs outer)
    (F : Fr h₀ env.locals s.heap m₀) (N : News h₀ env.locals s.heap (own ++ fr)) (t : Tl outer fr₁ fr) (O : Off own outer)
    (hl : (l, listOf vs.toArray nn) ∈ own) (ha : (a, o) ∈ own) (hla : l ≠ a) (hj : J 0 m₀ o)
    (turn : ∀ i v m₁ own₂ fr₂ o₂ h tk, vs[i]? = some v → Kp a own own₂ → (a, o₂) ∈ own₂ → J i m₁ o₂ → Tl outer fr₁ fr₂ → Off own₂ outer → Fr h₀ env.locals h (fun y => if y = x then some v else m₁ y) → News h₀ env.locals h (own₂ ++ fr₂) →
      wpAny (model prog w) A (execs body env) (TurnEnd h₀ env.locals outer fr₁ a own₂ (J (i + 1)) { s with heap := h, toks := tk } Q) E { s with heap := h, toks := tk })
    (done : ∀ m₁ own₂ fr₂ o₂ h tk, Kp a own own₂ → (a, o₂) ∈ own₂ → J vs.length m₁ o₂ → Tl outer fr₁ fr₂ → Off own₂ outer → Fr h₀ env.locals h m₁ → News h₀ env.locals h (own₂ ++ fr₂) → Q .next { s with heap := h, toks := tk }) :
    LoopAtV prog w A h₀ env x body Q E (.ref I) s := by
  have hol : s.heap.get? l = some (listOf vs.toArray nn) := (N _ (List.mem_append_left _ hl)).1
  have hls : s.heap.IsList l vs.toArray := ⟨_, hol, rfl, nn, rfl⟩
  have hne : l ≠ I := nI _ hl
  have W := Walks.list (prog := prog) (w := w) hh I l hne vs.toArray
  have hlen : vs.toArray.size = vs.length := by simp
  rw [hlen] at W
  have hfrI : ∀ {fr' : Led}, Tl outer fr₁ fr' → ∀ p ∈ fr', p.1 ≠ I := fun t' p hp e => oI (by rw [frs, t'.1.addrs, ← e]; exact List.mem_map_of_mem hp)
  have haI : a ≠ I := nI _ ha
  refine ⟨I, _, _, vs.length, _, _, m₀, own ++ fr, (fun i m nx => ∃ own₁ fr' o₁, nx = own₁ ++ fr' ∧ Tl outer fr₁ fr' ∧ Off own₁ outer ∧ Kp a own own₁ ∧ (a, o₁) ∈ own₁ ∧ J i m o₁), rfl, W, ?_, ?_, ?_, ⟨⟨_, hI, rfl, rfl⟩, hls⟩, F, N, ⟨own, fr, o, rfl, t, O, Kp.refl, ha, hj⟩, ?_, ?_⟩
  · intro hm
    rcases List.mem_cons.mp hm with e | hm
    · exact hIL e.symm
    · exact (N _ (List.mem_append_left _ hl)).2.1 ((List.mem_singleton.mp hm).symm)
  · intro b hb
    rw [List.mem_singleton.mp hb]
    exact hI0
  · intro p hp hI'
    have e := List.mem_singleton.mp hI'
    rcases List.mem_append.mp hp with hp | hp
    · exact nI p hp e
    · exact hfrI t p hp e
  · rintro i v m₁ news₁ s₁ ownF ⟨hh', tk', rfl⟩ hin hP ⟨own₁, fr', o₁, rfl, t', O', kp, hao, hJ⟩ hoff hown hget hfp hst F₁ N₁
    have hP' : vs[i]? = some v := by simpa using hP
    obtain ⟨⟨oI', hoI, _⟩, hl₁⟩ := id hst
    have hIown : (I, oI') ∈ ownF := hfp _ (List.mem_cons.mpr (.inl rfl)) hI0 _ hoI
    have nI₁ : ∀ p ∈ own₁ ++ fr', p.1 ≠ I := fun p hp e => hoff p hp (List.mem_singleton.mpr e)
    have hl₂ : (l, listOf vs.toArray nn) ∈ own₁ := kp _ hl hla
    have N₂ : News h₀ env.locals hh' (((I, oI') :: own₁) ++ fr') := fun p hp => by
      rcases List.mem_cons.mp hp with e | hp
      · rw [e]; exact N₁ _ (List.mem_append_left _ hIown)
      · exact N₁ p (List.mem_append_right _ hp)
    have hlo : hh'.get? l = some (listOf vs.toArray nn) := (N₂ _ (.tail _ (List.mem_append_left _ hl₂))).1
    refine wpAny_mono (turn i v m₁ ((I, oI') :: own₁) fr' o₁ hh' tk' hP' (fun p hp n => .tail _ (kp p hp n)) (.tail _ hao) hJ t' (Off.cons oI O') F₁ N₂) (fun f s₂ p => ?_) fun _ _ e => e
    have fin : (∃ h' tk m' own' fr' o', s₂ = { s with heap := h', toks := tk } ∧ Fr h₀ env.locals h' m' ∧ News h₀ env.locals h' (own' ++ fr') ∧ Tl outer fr₁ fr' ∧ Off own' outer ∧ Kp a ((I, oI') :: own₁) own' ∧ (a, o') ∈ own' ∧ J (i + 1) m' o') →
        LoopStepU h₀ env.locals [I] ownF (fun m nx => ∃ own₁ fr' o₁, nx = own₁ ++ fr' ∧ Tl outer fr₁ fr' ∧ Off own₁ outer ∧ Kp a own own₁ ∧ (a, o₁) ∈ own₁ ∧ J (i + 1) m o₁) { s with heap := hh', toks := tk' } .next s₂ := by
      rintro ⟨h', tk, m', own', fr'', o', e, F', N', t'', O'', kp', ha', hj'⟩
      refine ⟨rfl, h', tk, m', own'.filter (fun p => decide (p.1 ≠ I)) ++ fr'', e, F', fun p hp => ?_, fun p hp hq => ?_, _, fr'', o', rfl, t'', fun p hp => O'' p (List.mem_filter.mp hp).1, fun p hp n => ?_, List.mem_filter.mpr ⟨ha', by simpa using haI⟩, hj'⟩
      · rcases List.mem_append.mp hp with h | h
        · rcases List.mem_cons.mp (hown p h) with h1 | h1
          · have h2 := hget p h
            rw [h1, hoI] at h2
            have h3 : p = (I, oI') := Prod.ext h1 (Option.some.inj h2).symm
            rw [h3]
            exact N' _ (List.mem_append_left _ (kp' _ (.head _) (Ne.symm haI)))
          · have h1 := List.mem_singleton.mp h1
            have h2 := hget p h
            rw [h1, hlo] at h2
            have h3 : p = (l, listOf vs.toArray nn) := Prod.ext h1 (Option.some.inj h2).symm
            rw [h3]
            exact N' _ (List.mem_append_left _ (kp' _ (.tail _ hl₂) hla))
        · rcases List.mem_append.mp h with h | h
          · exact N' p (List.mem_append_left _ (List.mem_filter.mp h).1)
          · exact N' p (List.mem_append_right _ h)
      · have e := List.mem_singleton.mp hq
        rcases List.mem_append.mp hp with hp | hp
        · exact (by simpa using (List.mem_filter.mp hp).2 : p.1 ≠ I) e
        · exact hfrI t'' p hp e
      · exact List.mem_filter.mpr ⟨kp' p (.tail _ (kp p hp n)) n, by simpa using nI p hp⟩
    cases f with
    | ret v => exact .ret p
    | brk => exact .brk p
    | next => exact .next (fin p)
    | cont => exact .cont (fin p)
  · rintro h' tk m' news' F' N' _ ⟨own₁, fr', o₁, rfl, t', O', kp, hao, hJ⟩
    exact done m' own₁ fr' o₁ h' tk kp hao hJ t' O' F' N'
end
end
open PySem.Calls PySem.Spec PyProof.Rows
theorem Fits.in1 {A : Around} {D U : Nat} {l : List Env} (h : Fits A D U l) : Fits A.in1 D (U + 1) l := ⟨h.handled, h.depth, h.frames, h.guards, Nat.succ_le_succ h.units⟩
section
example : True := by w_top off; trivial
/-- insertion before place k -/
def insAt (xs : List Value) (k : Nat) (y : Value) : List Value := xs.take k ++ y :: xs.drop k
/-- the pure readings of __contains__ and add -/
def has (xs : List Value) (x : Value) : Bool := decide (find xs x < xs.length) && eqV (xs.getD (find xs x) .none) x
def ins (xs : List Value) (x : Value) : List Value :=
  if find xs x < xs.length then (if eqV (xs.getD (find xs x) .none) x then xs else insAt xs (find xs x) x) else xs ++ [x]
theorem insAt_length (xs : List Value) (k : Nat) (y : Value) : (insAt xs k y).length = xs.length + 1 := by
  unfold insAt
  rw [List.length_append, List.length_cons, List.length_take, List.length_drop]
  omega
theorem ins_length (xs : List Value) (x : Value) : (ins xs x).length ≤ xs.length + 1 := by
  unfold ins
  split
  · split
    · exact Nat.le_succ _
    · exact Nat.le_of_eq (insAt_length ..)
  · rw [List.length_append]; exact Nat.le_refl _
theorem insAt_th {xs : List Value} {k : Nat} {y : Value} (h : ∀ z ∈ xs, Th z) (hy : Th y) : ∀ z ∈ insAt xs k y, Th z := by
  intro z hz
  unfold insAt at hz
  rcases List.mem_append.mp hz with hz | hz
  · exact h z (List.mem_of_mem_take hz)
  · rcases List.mem_cons.mp hz with rfl | hz
    · exact hy
    · exact h z (List.mem_of_mem_drop hz)
theorem app_th {xs ys : List Value} (h : ∀ z ∈ xs, Th z) (k : ∀ z ∈ ys, Th z) : ∀ z ∈ xs ++ ys, Th z := fun z hz => (List.mem_append.mp hz).elim (h z) (k z)
theorem one_th {y : Value} (hy : Th y) : ∀ z ∈ [y], Th z := fun z hz => by rw [List.mem_singleton.mp hz]; exact hy
theorem ins_th {xs : List Value} {y : Value} (h : ∀ z ∈ xs, Th z) (hy : Th y) : ∀ z ∈ ins xs y, Th z := by
  unfold ins
  split
  · split
    · exact h
    · exact insAt_th h hy
  · exact app_th h (one_th hy)

theorem sizeLine_ge {n : Nat} (h : n ≤ 2000) : n ≤ sizeLine := by rw [sizeLine_eq]; omega

theorem fits_j {j : Nat} (h : j ≤ 1000) : Builtin.List.listFitsIndex (j : Int) = true := PySem.fitsIndex_of (by omega) (by omega)
theorem Cut.mem {news own fr : Led} {p : Addr × Obj} (h : Cut news own fr) (hp : p ∈ own) : p ∈ news := by
  unfold Cut at h; rw [h]; exact List.mem_append_left _ hp

section
variable {prog : Program} {w : World} {A : Around} {E : Value → Shared → Prop} {Q : Value → Shared → Prop} {s : Shared} {h₀ : Heap} {L D : Addr} {m : Str → Option Value} {own fr₁ fr news : Led} {outer : List Env} {xs : List Value} {n : Nat}

/-- what a turned list leaves -/
theorem list_turn (f : Array Value → Array Value) (ys : List Value) (F : Fr h₀ L s.heap m) (N : News h₀ L s.heap news) (hc : Cut news own fr) (ha : (D, listOf xs.toArray n) ∈ own) (t : Tl outer fr₁ fr) (O : Off own outer) (hf : f xs.toArray = ys.toArray) (v : Value)
    (k : ∀ h' own' n', Kp D own own' → (D, listOf ys.toArray n') ∈ own' → Off own' outer → Fr h₀ L h' m → News h₀ L h' (own' ++ fr) → Q v { s with heap := h' }) : Q v { s with heap := s.heap.update D (Obj.mapSeq f) } := by
  unfold Cut at hc
  subst hc
  have hg := (N _ (List.mem_append_left _ ha)).1
  have hu := PySem.IsL.update hg f
  rw [hf] at hu
  have hk : ∀ b, b ≠ D → (s.heap.update D (Obj.mapSeq f)).get? b = s.heap.get? b := fun b hb => Heap.get?_update_other _ _ (Ne.symm hb)
  exact k _ (upd D _ own) _ upd_kp (upd_mem ha) (upd_off ha O) (fr_upd F N (List.mem_append_left _ ha) hk) (upd_news N ha t O hu hk)

theorem u_append {y : Value} (F : Fr h₀ L s.heap m) (N : News h₀ L s.heap news) (hc : Cut news own fr) (ha : (D, listOf xs.toArray n) ∈ own) (t : Tl outer fr₁ fr) (O : Off own outer) (hz : xs.length ≤ 1000)
    (k : ∀ h' own' n', Kp D own own' → (D, listOf (xs ++ [y]).toArray n') ∈ own' → Off own' outer → Fr h₀ L h' m → News h₀ L h' (own' ++ fr) → Q .none { s with heap := h' }) : wpAny (model prog w) A (call (.builtin "list.append") [.ref D, y]) Q E s := by
  have hg := (N _ (hc.mem ha)).1
  exact call_meets PySem.F.slot_list_append ⟨_, hg, rfl⟩ PySem.F.entry_list_append (PySem.F.args_list_append_2 _ _) (PySem.AutoListH.list_append_list_val_0 D _ n y (by rw [List.size_toArray]; exact sizeLine_ge (by omega))) ⟨hg, list_turn _ _ F N hc ha t O (by simp) _ k⟩

theorem u_insert {y : Value} {x : Int} {j : Nat} {u : Tok} (F : Fr h₀ L s.heap m) (N : News h₀ L s.heap news) (hc : Cut news own fr) (ha : (D, listOf xs.toArray n) ∈ own) (t : Tl outer fr₁ fr) (O : Off own outer) (hz : xs.length ≤ 1000) (hx : x = (j : Int)) (hj : j ≤ xs.length)
    (k : ∀ h' own' n', Kp D own own' → (D, listOf (insAt xs j y).toArray n') ∈ own' → Off own' outer → Fr h₀ L h' m → News h₀ L h' (own' ++ fr) → Q .none { s with heap := h' }) : wpAny (model prog w) A (call (.builtin "list.insert") [.ref D, .int x u, y]) Q E s := by
  have hg := (N _ (hc.mem ha)).1
  have hfit : Builtin.List.listFitsIndex x = true := hx ▸ fits_j (by omega)
  refine call_meets PySem.F.slot_list_insert ⟨_, hg, rfl⟩ PySem.F.entry_list_insert (PySem.F.args_list_insert_3 _ _ _) (PySem.AutoSeq1.list_insert_list_int_val_1 D _ n x u y (by simp [hfit]) (by rw [List.size_toArray]; exact sizeLine_ge (by omega))) ⟨hg, list_turn _ _ F N hc ha t O ?_ _ k⟩
  subst hx
  show (xs.toArray.extract 0 (if (j : Int) < 0 then ((j : Int) + (xs.toArray.size : Int)).toNat else min (j : Int).toNat xs.toArray.size)).push y ++ xs.toArray.extract (if (j : Int) < 0 then ((j : Int) + (xs.toArray.size : Int)).toNat else min (j : Int).toNat xs.toArray.size) = (insAt xs j y).toArray
  rw [kl_ins_eq, if_neg (by omega), List.size_toArray]
  have e : min (j : Int).toNat xs.length = j := by omega
  rw [e]
  rfl
theorem u_pop_at {x : Int} {j : Nat} {u : Tok} (F : Fr h₀ L s.heap m) (N : News h₀ L s.heap news) (hc : Cut news own fr) (ha : (D, listOf xs.toArray n) ∈ own) (t : Tl outer fr₁ fr) (O : Off own outer) (hz : xs.length ≤ 1000) (hx : x = (j : Int)) (hj : j < xs.length)
    (k : ∀ h' own' n', Kp D own own' → (D, listOf (xs.eraseIdx j).toArray n') ∈ own' → Off own' outer → Fr h₀ L h' m → News h₀ L h' (own' ++ fr) → Q (xs.getD j .none) { s with heap := h' }) : wpAny (model prog w) A (call (.builtin "list.pop") [.ref D, .int x u]) Q E s := by
  have hg := (N _ (hc.mem ha)).1
  have hfit : Builtin.List.listFitsIndex x = true := hx ▸ fits_j (by omega)
  refine call_meets PySem.F.slot_list_pop ⟨_, hg, rfl⟩ PySem.F.entry_list_pop (PySem.F.args_list_pop_2 _ _) (PySem.MeetsSeq.list_pop_at D _ n x u j (xs.getD j .none) hfit (by rw [List.size_toArray]; exact (PySem.seqIndex_of (by omega) (by omega)).trans (congrArg some (by omega))) (by simp [List.getD, hj]) (by rw [List.size_toArray]; exact sizeLine_ge (by omega))) ⟨hg, list_turn _ _ F N hc ha t O (by simp) _ k⟩
theorem u_pop_last (F : Fr h₀ L s.heap m) (N : News h₀ L s.heap news) (hc : Cut news own fr) (ha : (D, listOf xs.toArray n) ∈ own) (t : Tl outer fr₁ fr) (O : Off own outer) (hz : xs.length ≤ 1000) (hj : 0 < xs.length)
    (k : ∀ h' own' n', Kp D own own' → (D, listOf (xs.eraseIdx (xs.length - 1)).toArray n') ∈ own' → Off own' outer → Fr h₀ L h' m → News h₀ L h' (own' ++ fr) → Q (xs.getD (xs.length - 1) .none) { s with heap := h' }) : wpAny (model prog w) A (call (.builtin "list.pop") [.ref D]) Q E s := by
  have hg := (N _ (hc.mem ha)).1
  refine call_meets PySem.F.slot_list_pop ⟨_, hg, rfl⟩ PySem.F.entry_list_pop (PySem.F.args_list_pop_1 _) (PySem.MeetsSeq.list_pop_last D _ n (xs.getD (xs.length - 1) .none) (by rw [List.size_toArray]; simp [List.getD]; rw [List.getElem?_eq_getElem (by omega)]; rfl) (by rw [List.size_toArray]; exact sizeLine_ge (by omega))) ⟨hg, list_turn _ _ F N hc ha t O (by simp) _ k⟩
theorem u_del_at {x : Int} {j : Nat} {u : Tok} (F : Fr h₀ L s.heap m) (N : News h₀ L s.heap news) (hc : Cut news own fr) (ha : (D, listOf xs.toArray n) ∈ own) (t : Tl outer fr₁ fr) (O : Off own outer) (hz : xs.length ≤ 1000) (hx : x = (j : Int)) (hj : j < xs.length)
    (k : ∀ h' own' n', Kp D own own' → (D, listOf (xs.eraseIdx j).toArray n') ∈ own' → Off own' outer → Fr h₀ L h' m → News h₀ L h' (own' ++ fr) → Q .none { s with heap := h' }) : wpAny (model prog w) A (call (.builtin "list.__delitem__") [.ref D, .int x u]) Q E s := by
  have hg := (N _ (hc.mem ha)).1
  have hfit : Builtin.List.listFitsIndex x = true := hx ▸ fits_j (by omega)
  refine call_meets PySem.F.slot_list_delitem ⟨_, hg, rfl⟩ PySem.F.entry_list_delitem (PySem.F.args_list_delitem_2 _ _) (PySem.MeetsSeq.list_delitem_at D _ n x u j hfit (by rw [List.size_toArray]; exact (PySem.seqIndex_of (by omega) (by omega)).trans (congrArg some (by omega))) (by rw [List.size_toArray]; exact sizeLine_ge (by omega))) ⟨hg, list_turn _ _ F N hc ha t O (by simp) _ k⟩
end
end
section
example : True := by w_top off; trivial
theorem Off.cut {news own fr fr₁ : Led} {a : Addr} {l : List Env} (h : AllLt a news) (c : Cut news own fr) (t : Tl l fr₁ fr) : a ∉ frs l := by
  unfold Cut at c; subst c; exact off_new h t
theorem Fits.of {D U D' U' : Nat} {l : List Env} (h1 : D' ≤ D) (h2 : U' ≤ U) : Fits (AC D' U' l) D U l := ⟨rfl, h1, rfl, rfl, h2⟩
theorem ne_flip {a b : Addr} (h : b ≠ a) : a ≠ b := fun e => h e.symm

theorem cc_find {w : World} {own : Led} {S D Ls : Addr} {xs : List Value} {x : Value} (h : SetAt own S D Ls xs) (hx : Th x) (hz : xs.length ≤ 1000) :
    Con w 303 390 900 [.ref S, x] own (fun v own' => own = own' ∧ ∃ tk, v = .int (find xs x : Nat) tk) := by
  obtain ⟨hS, ⟨hsh, tk, hD⟩, ⟨n, hL⟩, hth, -, -, -⟩ := h
  intro prog A E Q s h₀ L m mg mb env outer fr₁ fr p loose mean hA hf hk F X T N t O k
  exact c_find hA hf hk F X T N t O hS hD hL hx hth hz fun tk h' tk' fr' t' F' N' => k _ _ _ own fr' t' F' N' O ⟨rfl, tk, rfl⟩
theorem Bk.go {h₀ : Heap} {L L' : Addr} {m : Str → Option Value} {env : Env} {outer : List Env} {fr₁ fr₂ : Led} (bk : Bk h₀ L L' m env outer fr₁ fr₂) {h' : Heap} {news own' fr' : Led} {m' : Str → Option Value} (F : Fr h₀ L' h' m') (N : News h₀ L' h' news) (c : Cut news own' fr') (t : Tl (env :: outer) fr₂ fr') (O : Off own' (env :: outer)) {P : Prop}
    (k : ∀ fr'', Tl outer fr₁ fr'' → Fr h₀ L h' m → News h₀ L h' (own' ++ fr'') → Off own' outer → P) : P := by
  unfold Cut at c; subst c; exact bk _ _ _ _ F N t O _ k
theorem allLt_of {a : Addr} : ∀ {l : Led}, (∀ p ∈ l, p.1 < a) → AllLt a l
  | [], _ => trivial
  | _ :: _, h => ⟨h _ (.head _), allLt_of fun p hp => h p (.tail _ hp)⟩
theorem New.of {a : Addr} {news own fr : Led} (h : AllLt a news) (c : Cut news own fr) : New own a := fun p hp => by
  unfold Cut at c; subst c; exact Nat.ne_of_lt (allLt_mem h p (List.mem_append_left _ hp))
theorem New.cons {a b : Addr} {o : Obj} {own : Led} (h : b ≠ a) (k : New own a) : New ((b, o) :: own) a := fun p hp => by
  rcases List.mem_cons.mp hp with e | hp
  · rw [e]; exact h
  · exact k p hp
theorem iter_led {prog : Program} {w : World} {A : Around} {E : Value → Shared → Prop} {s : Shared} {h₀ : Heap} {L l : Addr} {m : Str → Option Value} {news : Led} {its : Array Value} {n : Nat} {Q : Value → Shared → Prop} (F : Fr h₀ L s.heap m) (N : News h₀ L s.heap news) (hp : (l, listOf its n) ∈ news)
    (h : ∀ (I : Addr) h', Fr h₀ L h' m → News h₀ L h' ((I, itObj l) :: news) → AllLt I news → Q (.ref I) { s with heap := h' }) :
    wpAny (model prog w) A (call (.builtin "iter") [.ref l]) Q E s := by
  refine call_function_entry (by decide +kernel) (by decide +kernel) kdk_entry_iter (kdk_args_iter _) ?_
  unfold Builtin.«iter»
  refine wpAny_bind (m := someArgs "iter" 1 2 _) (wpAny_of_eq (a := [Value.ref l]) (by first | rfl | kernel_rfl!) ?_)
  show wpAny _ _ (pyIter (.ref l) >>= _) _ _ _
  refine wpAny_bind (wpAny_pyIter_list (items := its) ⟨_, (N _ hp).1, rfl, n, rfl⟩ ?_)
  exact wpAny_pure ⟨_, rfl, h _ _ (F.push _) (News.push F N _ rfl) (allLt_of fun q hq => Heap.lt_size (N q hq).1)⟩
section
variable {p q r u v x : Addr × Obj} {own fr : Led}
theorem Cut.b1 : Cut (p :: (own ++ fr)) (p :: own) fr := rfl
theorem Cut.b2 : Cut (p :: q :: (own ++ fr)) (p :: q :: own) fr := rfl
theorem Cut.b3 : Cut (p :: q :: r :: (own ++ fr)) (p :: q :: r :: own) fr := rfl
theorem Cut.b4 : Cut (p :: q :: r :: u :: (own ++ fr)) (p :: q :: r :: u :: own) fr := rfl
theorem Cut.b5 : Cut (p :: q :: r :: u :: v :: (own ++ fr)) (p :: q :: r :: u :: v :: own) fr := rfl
theorem Cut.b6 : Cut (p :: q :: r :: u :: v :: x :: (own ++ fr)) (p :: q :: r :: u :: v :: x :: own) fr := rfl
end
section
variable {news own fr fr₁ : Led} {a b c d e : Addr} {l : List Env}
theorem Off.cut1 (h : b < a ∧ AllLt a news) (k : Cut news own fr) (t : Tl l fr₁ fr) : a ∉ frs l := Off.cut h.2 k t
theorem Off.cut2 (h : b < a ∧ c < a ∧ AllLt a news) (k : Cut news own fr) (t : Tl l fr₁ fr) : a ∉ frs l := Off.cut h.2.2 k t
theorem Off.cut3 (h : b < a ∧ c < a ∧ d < a ∧ AllLt a news) (k : Cut news own fr) (t : Tl l fr₁ fr) : a ∉ frs l := Off.cut h.2.2.2 k t
theorem Off.cut4 (h : b < a ∧ c < a ∧ d < a ∧ e < a ∧ AllLt a news) (k : Cut news own fr) (t : Tl l fr₁ fr) : a ∉ frs l := Off.cut h.2.2.2.2 k t
end
end
local macro_rules | `(tactic| k_mem) => `(tactic| (with_reducible refine List.mem_append_left _ ?_; with_reducible assumption))
local macro_rules | `(tactic| walk_at "subscriptTail") => `(tactic| (k_here; (with_reducible show wpAny _ _ (subscriptTail _ _ (Value.ref _) (Value.int _ _)) _ _ _); (with_unfolding_all refine' item_led (by k_asm) (by k_mem) ?k1 ?k2 (by first | assumption | omega) ?_; (case k1 => first | exact rfl | exact fdiv2 _ _ | assumption); (case k2 => omega))))
local macro_rules | `(tactic| walk_at "call builtin:len") => `(tactic| (k_here; (with_reducible show wpAny _ _ (call (Value.builtin _) [Value.ref _]) _ _ _); (with_unfolding_all refine' len_led (by k_asm) (by k_mem) (by first | assumption | omega) ?_)))
local macro_rules | `(tactic| walk_at "exec While Compare cons nil") => `(tactic| refine Hold.of ?_)
local macro_rules | `(tactic| walk_at "Hold") => `(tactic| fail "held")
local macro_rules | `(tactic| tb_start) => `(tactic| first | with_reducible assumption | exact th_getD (by with_reducible assumption) _)
local macro_rules | `(tactic| tb_rel) => `(tactic| first | exact Or.inl rfl | exact Or.inr ⟨_, _, _, rfl, (News.get (by with_reducible assumption) (List.Mem.head _)), by with_reducible assumption, by with_reducible assumption⟩)
local macro_rules | `(tactic| walk_at "compareOp Lt") => `(tactic| (k_here; (with_reducible refine th_lt ?ka ?kb ?kc (fun r hr => ?_) (fun hr h' tk' e' x' => Hold.of ?_)); (case ka => tb_start); (case kb => tb_start); (case kc => tb_rel)))
local macro_rules | `(tactic| walk_at "compareOp GtE") => `(tactic| (k_here; (with_reducible refine th_ge ?ka ?kb ?kc (fun r hr => ?_) (fun hr h' tk' e' x' => Hold.of ?_)); (case ka => tb_start); (case kb => tb_start); (case kc => tb_rel)))
local macro_rules | `(tactic| walk_at "compareOp Eq") => `(tactic| (k_here; (with_reducible refine th_eq ?ka ?kb ?_); (case ka => tb_start); (case kb => tb_start)))
local macro_rules | `(tactic| walk_at "compareOp NotEq") => `(tactic| (k_here; (with_reducible refine th_ne ?ka ?kb ?_); (case ka => tb_start); (case kb => tb_start)))
local macro_rules | `(tactic| ktr_unf) => `(tactic| repeat' (first | (k_unfold; (try dsimp only)) | walk1 | (dsimp only; walk1)))
local macro_rules | `(tactic| acc_open) => `(tactic| first | with_reducible assumption | (refine ne_flip ?_; with_reducible assumption) | (exact Nat.ne_of_lt (by with_reducible assumption)) | (exact Nat.ne_of_gt (by with_reducible assumption)) | (refine New.ne (by with_reducible assumption) (by k_mem)) | (refine ne_flip (New.ne (by with_reducible assumption) (by with_reducible assumption))) | ((refine neN ?_); (try dsimp only); omega))
local macro_rules | `(tactic| k_mem) => `(tactic| (with_reducible assumption))
local macro_rules | `(tactic| k_mem) => `(tactic| (refine Kq.mem (by with_reducible assumption) ?_; k_mem))
local macro_rules | `(tactic| k_mem) => `(tactic| (refine Kp.mem (by with_reducible assumption) ?_ ?_; k_mem; acc_open))
local macro_rules | `(tactic| k_mem) => `(tactic| (with_reducible refine List.mem_append_left _ ?_; k_mem))
local macro_rules | `(tactic| k_mem) => `(tactic| (with_reducible refine List.mem_cons_of_mem _ ?_; k_mem))
local macro_rules | `(tactic| acc_binds) => `(tactic| with_reducible first | exact Cut.base | exact Cut.b1 | exact Cut.b2 | exact Cut.b3 | exact Cut.b4 | exact Cut.b5 | exact Cut.b6)
local macro_rules | `(tactic| acc_keepN) => `(tactic| first | with_reducible assumption | exact Off.nil | (refine Off.cons ?o9 ?p9; (case o9 => first | with_reducible assumption | exact Off.cut (by with_reducible assumption) (by acc_binds) (by with_reducible assumption) | exact Off.cut1 (by with_reducible assumption) (by acc_binds) (by with_reducible assumption) | exact Off.cut2 (by with_reducible assumption) (by acc_binds) (by with_reducible assumption) | exact Off.cut3 (by with_reducible assumption) (by acc_binds) (by with_reducible assumption) | exact Off.cut4 (by with_reducible assumption) (by acc_binds) (by with_reducible assumption)); (case p9 => acc_keepN)))
local macro_rules | `(tactic| acc_state) => `(tactic| first | exact Fits.of (by decide) (by decide) | exact Fits.in1 (Fits.of (by decide) (by decide)))
local macro_rules | `(tactic| acc_peel) => `(tactic| first | with_reducible assumption | exact SetAt.mk (by k_mem) ⟨_, _, by k_mem⟩ ⟨_, by k_mem⟩ (by with_reducible assumption) (by acc_open) (by acc_open) (by acc_open))
local macro_rules | `(tactic| walk_at "call ref") => `(tactic| (k_here; (with_reducible show wpAny _ _ (call (Value.ref 303) _) _ _ _); (refine' Con.use ?c ?hA ?hf ?hk ?F ?X ?T ?N ?hc ?t ?O (fun v9 h9 tk9 own9 fr9 T9 F9 N9 O9 R9 => ?_)); (case N => k_asm); (case hc => acc_binds); (case c => exact cc_find (by acc_peel) (by tb_start) (by first | assumption | omega)); (case hA => acc_state); (case hf => rfl); (case hk => rfl); (case F => k_asm); (case X => k_asm); (case T => k_asm); (case t => with_reducible assumption); (case O => acc_keepN); (obtain ⟨e9, tk8, e8⟩ := R9); subst e9; subst e8))
local macro_rules | `(tactic| acc_keep) => `(tactic| ((rename Bk _ _ _ _ _ _ _ _ => bk9); (rename (∀ (v : Value) (h' : Heap) (tk' : Nat) (own' fr' : Led), _) => k9); (refine' bk9.go ?F ?N ?c ?t ?O (fun fr9 T9 F9 N9 O9 => k9 _ _ _ _ _ T9 F9 N9 O9 ?_)); (case F => k_asm); (case N => k_asm); (case c => acc_binds); (case t => with_reducible assumption); (case O => acc_keepN)))
local macro_rules | `(tactic| walk_at "call builtin:iter") => `(tactic| (k_here; (with_reducible show wpAny _ _ (call (Value.builtin _) [Value.ref _]) _ _ _); (refine' iter_led ?F ?N ?a (fun I9 h9 F9 N9 a9 => ?_)); (case F => k_asm); (case N => k_asm); (case a => k_mem)))
local macro_rules | `(tactic| k_mem) => `(tactic| (with_reducible exact List.mem_cons_self))
local macro_rules | `(tactic| k_mem) => `(tactic| (with_reducible assumption))
local macro_rules | `(tactic| walk_at "call builtin:list.append") => `(tactic| (k_here; (with_reducible show wpAny _ _ (call (Value.builtin _) [Value.ref _, _]) _ _ _); (refine' u_append ?F ?N ?c ?a ?t ?O ?z (fun h9 own9 n9 kp9 hm9 O9 F9 N9 => ?_)); (case F => k_asm); (case N => k_asm); (case c => acc_binds); (case a => k_mem); (case t => with_reducible assumption); (case O => acc_keepN); (case z => first | assumption | omega)))
local macro_rules | `(tactic| walk_at "call builtin:list.insert") => `(tactic| (k_here; (with_reducible show wpAny _ _ (call (Value.builtin _) [Value.ref _, Value.int _ _, _]) _ _ _); (refine' u_insert ?F ?N ?c ?a ?t ?O ?z ?x ?j (fun h9 own9 n9 kp9 hm9 O9 F9 N9 => ?_)); (case F => k_asm); (case N => k_asm); (case c => acc_binds); (case a => k_mem); (case t => with_reducible assumption); (case O => acc_keepN); (case z => first | assumption | omega); (case x => exact rfl); (case j => omega)))
section
example : True := by w_top off; trivial
theorem c_contains {w : World} {own : Led} {S D Ls : Addr} {xs : List Value} {x : Value} (h : SetAt own S D Ls xs) (hx : Th x) (hz : xs.length ≤ 1000) :
    Con w 184 380 800 [.ref S, x] own (fun v own' => own = own' ∧ v = .bool (has xs x)) := by
  obtain ⟨hS, ⟨hsh, tk, hD⟩, ⟨n, hL⟩, hth, hn1, hn2, hn3⟩ := h
  intro prog A E Q s h₀ L m mg mb env outer fr₁ fr p loose mean hA hf hk F X T N t O k
  refine enter (K := Mine.hd.heap_39 w.params) (args := ⟨[.ref S, x], []⟩) (binds := [("self", .ref S), ("item", x)]) hA hf hk F X T N t O (by k_is) (by k_is) (by decide) (BindsTo.of_eq rfl) (locs rfl) ?_ rfl rfl rfl (by decide)
  intro L' h₁ fr₂ F' N' t' O' bk
  refine PySem.wpAny_noRaise ?_
  try dsimp only
  clear F N t O
  ktr_unf
  · acc_keep
    refine ⟨rfl, ?_⟩
    have hlt : find xs x < xs.length := by omega
    unfold has
    rw [decide_eq_true hlt]
    rfl
  · acc_keep
    refine ⟨rfl, ?_⟩
    have hlt : ¬ find xs x < xs.length := by omega
    unfold has
    rw [decide_eq_false hlt, decide_eq_false (by omega)]
    rfl
theorem c_add {w : World} {own : Led} {S D Ls : Addr} {xs : List Value} {x : Value} (h : SetAt own S D Ls xs) (hx : Th x) (hz : xs.length ≤ 1000) :
    Con w 198 380 800 [.ref S, x] own (fun v own' => v = .none ∧ Kp Ls own own' ∧ ∃ n, (Ls, listOf (ins xs x).toArray n) ∈ own') := by
  obtain ⟨hS, ⟨hsh, tk, hD⟩, ⟨n, hL⟩, hth, hn1, hn2, hn3⟩ := h
  intro prog A E Q s h₀ L m mg mb env outer fr₁ fr p loose mean hA hf hk F X T N t O k
  refine enter (K := Mine.hd.heap_39 w.params) (args := ⟨[.ref S, x], []⟩) (binds := [("self", .ref S), ("item", x)]) hA hf hk F X T N t O (by k_is) (by k_is) (by decide) (BindsTo.of_eq rfl) (locs rfl) ?_ rfl rfl rfl (by decide)
  intro L' h₁ fr₂ F' N' t' O' bk
  refine PySem.wpAny_noRaise ?_
  try dsimp only
  clear F N t O
  ktr_unf
  · rename (eqV _ _ = true) => he
    acc_keep
    refine ⟨rfl, Kp.refl, n, ?_⟩
    unfold ins
    rw [if_pos (by omega), if_pos he]
    exact hL
  · rename (eqV _ _ = false) => he
    rename (_ ∈ _) => hm
    acc_keep
    have e : ins xs x = insAt xs (find xs x) x := by
      unfold ins
      rw [if_pos (by omega), if_neg (by rw [he]; decide)]
    rw [← e] at hm
    exact ⟨rfl, by assumption, _, hm⟩
  · rename (_ ∈ _) => hm
    acc_keep
    have e : ins xs x = xs ++ [x] := by
      unfold ins
      rw [if_neg (by omega)]
    rw [← e] at hm
    exact ⟨rfl, by assumption, _, hm⟩
end
local macro_rules | `(tactic| walk_at "call ref") => `(tactic| (k_here; (with_reducible show wpAny _ _ (call (Value.ref 198) _) _ _ _); (refine' Con.use ?c ?hA ?hf ?hk ?F ?X ?T ?N ?hc ?t ?O (fun v9 h9 tk9 own9 fr9 T9 F9 N9 O9 R9 => ?_)); (case N => k_asm); (case hc => acc_binds); (case c => exact c_add (by acc_peel) (by tb_start) (by first | assumption | omega)); (case hA => acc_state); (case hf => rfl); (case hk => rfl); (case F => k_asm); (case X => k_asm); (case T => k_asm); (case t => with_reducible assumption); (case O => acc_keepN); (obtain ⟨e9, kp9, n9, hm9⟩ := R9); subst e9))
section
example : True := by w_top off; trivial
theorem c_len {w : World} {own : Led} {S D Ls : Addr} {xs : List Value} (h : SetAt own S D Ls xs) (hz : xs.length ≤ 1000) :
    Con w 44 380 800 [.ref S] own (fun v own' => own = own' ∧ ∃ tk, v = .int (xs.length : Nat) tk) := by
  obtain ⟨hS, ⟨hsh, tk, hD⟩, ⟨n, hL⟩, hth, hn1, hn2, hn3⟩ := h
  intro prog A E Q s h₀ L m mg mb env outer fr₁ fr p loose mean hA hf hk F X T N t O k
  refine enter (K := Mine.hd.heap_39 w.params) (args := ⟨[.ref S], []⟩) (binds := [("self", .ref S)]) hA hf hk F X T N t O (by k_is) (by k_is) (by decide) (BindsTo.of_eq rfl) (locs rfl) ?_ rfl rfl rfl (by decide)
  intro L' h₁ fr₂ F' N' t' O' bk
  refine PySem.wpAny_noRaise ?_
  try dsimp only
  clear F N t O
  ktr_unf
  acc_keep
  exact ⟨rfl, _, rfl⟩
theorem c_iter {w : World} {own : Led} {S D Ls : Addr} {xs : List Value} (h : SetAt own S D Ls xs) (hz : xs.length ≤ 1000) :
    Con w 58 380 800 [.ref S] own (fun v own' => ∃ I, v = .ref I ∧ own' = (I, itObj Ls) :: own ∧ New own I) := by
  obtain ⟨hS, ⟨hsh, tk, hD⟩, ⟨n, hL⟩, hth, hn1, hn2, hn3⟩ := h
  intro prog A E Q s h₀ L m mg mb env outer fr₁ fr p loose mean hA hf hk F X T N t O k
  refine enter (K := Mine.hd.heap_39 w.params) (args := ⟨[.ref S], []⟩) (binds := [("self", .ref S)]) hA hf hk F X T N t O (by k_is) (by k_is) (by decide) (BindsTo.of_eq rfl) (locs rfl) ?_ rfl rfl rfl (by decide)
  intro L' h₁ fr₂ F' N' t' O' bk
  refine PySem.wpAny_noRaise ?_
  try dsimp only
  clear F N t O
  ktr_unf
  acc_keep
  exact ⟨_, rfl, rfl, New.of (by assumption) (by acc_binds)⟩
theorem c_getitem {w : World} {own : Led} {S D Ls : Addr} {xs : List Value} {i : Int} {j : Nat} {u : Tok} (h : SetAt own S D Ls xs) (hz : xs.length ≤ 1000) (hi : i = (j : Int)) (hj : j < xs.length) :
    Con w 51 380 800 [.ref S, .int i u] own (fun v own' => own = own' ∧ v = xs.getD j .none) := by
  obtain ⟨hS, ⟨hsh, tk, hD⟩, ⟨n, hL⟩, hth, hn1, hn2, hn3⟩ := h
  intro prog A E Q s h₀ L m mg mb env outer fr₁ fr p loose mean hA hf hk F X T N t O k
  refine enter (K := Mine.hd.heap_39 w.params) (args := ⟨[.ref S, .int i u], []⟩) (binds := [("self", .ref S), ("i", .int i u)]) hA hf hk F X T N t O (by k_is) (by k_is) (by decide) (BindsTo.of_eq rfl) (locs rfl) ?_ rfl rfl rfl (by decide)
  intro L' h₁ fr₂ F' N' t' O' bk
  refine PySem.wpAny_noRaise ?_
  try dsimp only
  clear F N t O
  ktr_unf
  acc_keep
  exact ⟨rfl, rfl⟩
end
section
example : True := by w_top off; trivial
section
variable {prog : Program} {w : World} {A : Around} {E : Value → Shared → Prop} {s : Shared} {K : Frag} {h₀ : Heap} {L f : Addr} {m mg mb : Str → Option Value} {env : Env} {outer : List Env} {own fr₁ fr : Led} {p : Program} {loose : List Str} {mean : ExcName → Option Value}
  {D U : Nat} {name qual : Str} {params : Arguments} {body : List Stmt} {scope : Scope} {dV kV doc pm cdv ct oc : Value} {an od : Option Addr} {osl : Array (Option Value)} {args : Args} {binds : List (Str × Value)} {R : Result → Shared → Prop}
theorem enterC (hA : Fits A D U (env :: outer)) (hf : env.frame = some L) (hk : env.scope.kind = .function) (F : Fr h₀ L s.heap m) (X : K.In h₀) (T : Top p loose mean mg mb h₀) (N : News h₀ L s.heap (own ++ fr)) (t : Tl outer fr₁ fr) (O : Off own outer)
    (ho : K.lookup f = some ⟨oc, od, .func (fnOf name qual params body scope dV kV doc pm an cdv ct), osl⟩) (hcd : codeIn K cdv qual = true) (hroom : D < recursionLimit)
    (hbind : BindsTo s (fnOf name qual params body scope dV kV doc pm an cdv ct) args binds) (hloc : ∀ y ∈ binds, scope.names.lookup y.1 = some .local)
    (h : ∀ L' h₁ fr₂, Fr h₀ L' h₁ (fun y => binds.reverse.lookup y) → News h₀ L' h₁ (own ++ fr₂) → Tl (env :: outer) fr₂ fr₂ → Off own (env :: outer) → Bk h₀ L L' m env outer fr₁ fr₂ →
      wpAny (model prog w) (AC (D + 1) (U + 3) (envOf qual scope L' f cdv :: env :: outer)) (execs body (envOf qual scope L' f cdv))
        (fun fl s' => R (.ok (.ret (match fl with | .ret v => v | _ => .none))) s')
        (fun e s' => wpAny (model prog w) (AC (D + 1) (U + 3) (envOf qual scope L' f cdv :: env :: outer)) («leaving» (envOf qual scope L' f cdv) e) (fun _ s'' => R (.error e) s'') (fun e' s'' => R (.error e') s'') s')
        { s with heap := h₁, toks := s.toks + binds.length })
    (hco : scope.isCoroutine = false) (hgen : scope.isGenerator = false) (hks : scope.kind = .function) (hcell : ∀ x ∈ scope.names, x.2 ≠ .cell) :
    codeAny (model prog w) A (.call (.ref f) args) R s := by
  refine hA.code ?_
  obtain ⟨oL, es, ep, hL, hLd, hLk, hLf⟩ := F.ns
  have X' := X.keeps F.keep
  refine codeAny_call_def (fd := fnOf name qual params body scope dV kV doc pm an cdv ct) (body := body) (binds := binds) hroom (X' _ _ ho) rfl (T.nolimit.keeps F.keep) (codeRec_of X' hcd) rfl hbind hcell hloc (fun h₁ hns hk₁ => ?_) hco hgen hks
  have hLt := Heap.lt_size hL
  have hne : ∀ b, (s.heap.get? b).isSome = true → b ≠ s.heap.objs.size := fun b hb q => by
    rw [q, Heap.get?_none_of_le (Nat.le_refl _)] at hb; cases hb
  refine wpAny_mono (h s.heap.objs.size h₁ ((L, oL) :: fr) ⟨hns, fun b o e => hk₁ b o (F.keep b o e), Nat.le_trans F.above (Nat.le_of_lt hLt)⟩ (fun q hq => ?_) (Tl.refl ⟨by rw [hk]; decide, hf, ⟨es, ep, hLd⟩, t.1⟩) (fun q hq hm => ?_) (bk_of F N hL hf t)) (fun fl s' hq => hq) fun _ _ x => x
  · rcases List.mem_append.mp hq with hq | hq
    · obtain ⟨a, b, c⟩ := N q (List.mem_append_left _ hq)
      exact ⟨hk₁ _ _ a, hne _ (by rw [a]; rfl), c⟩
    · rcases List.mem_cons.mp hq with e | hq
      · rw [e]
        exact ⟨hk₁ _ _ hL, Nat.ne_of_lt hLt, Heap.get?_none_of_le F.above⟩
      · obtain ⟨a, b, c⟩ := N q (List.mem_append_right _ hq)
        exact ⟨hk₁ _ _ a, hne _ (by rw [a]; rfl), c⟩
  · rw [frs, List.filterMap_cons, hf] at hm
    rcases List.mem_cons.mp hm with e | hm
    · exact (N q (List.mem_append_left _ hq)).2.1 e
    · exact O q hq hm
end

section
variable {prog : Program} {w : World} {A : Around} {E : Value → Shared → Prop} {s : Shared} {env : Env} {h₀ : Heap} {x : Str} {body : List Stmt} {Q : Flow → Shared → Prop}
/-- a loop over the empty tuple -/
theorem loop_nil {t : Addr} {m₀ : Str → Option Value} {news : Led} (hh : A.handled = none) (ht : s.heap.IsTuple t #[]) (ht0 : h₀.IsTuple t #[]) (F : Fr h₀ env.locals s.heap m₀) (N : News h₀ env.locals s.heap news)
    (done : ∀ h' tk, Fr h₀ env.locals h' m₀ → News h₀ env.locals h' news → Q .next { s with heap := h', toks := tk }) :
    wpAny (model prog w) A (pyIter (.ref t)) (fun it s₂ => LoopAtV prog w A h₀ env x body Q E it s₂) E s := by
  obtain ⟨ot, hot, _⟩ := id ht
  have hne : t ≠ s.heap.objs.size := Nat.ne_of_lt (Heap.lt_size hot)
  refine wpAny_pyIter_tuple ht ?_
  have W := Walks.tuple (prog := prog) (w := w) hh s.heap.objs.size t hne #[]
  refine ⟨_, _, _, _, _, _, m₀, news, (fun i m nx => m = m₀ ∧ nx = news), rfl, W, ?_, ?_, ?_, ⟨⟨_, Heap.get?_push_size _ rfl, rfl, rfl⟩, ht.at fun o e => Heap.get?_push_of_some _ e⟩, F.push _, (fun p hp => ⟨Heap.get?_push_of_some _ (N p hp).1, (N p hp).2⟩), ⟨rfl, rfl⟩, ?_, ?_⟩
  · intro hm
    rcases List.mem_cons.mp hm with e | hm
    · exact absurd F.ns.lt (e ▸ Nat.lt_irrefl _)
    · obtain ⟨o0, ho0, _⟩ := id ht0
      have := Heap.lt_size ho0
      have h2 := F.above
      rw [List.mem_singleton.mp hm] at h2
      exact absurd this (Nat.not_lt.mpr h2)
  · intro b hb
    rw [List.mem_singleton.mp hb]
    exact next_is_new F
  · intro p hp hI
    exact absurd (Heap.lt_size (N p hp).1) ((List.mem_singleton.mp hI) ▸ Nat.lt_irrefl _)
  · intro i v m₁ news₁ s₁ own _ hi
    exact absurd hi (Nat.not_lt_zero _)
  · rintro h' tk m' news' F' N' _ ⟨rfl, rfl⟩
    exact done h' tk F' N'
end
theorem Fits.make {A : Around} {D U : Nat} {l : List Env} (h : Fits A D U l) : Fits (A.under (.builtin "type.__call__" ⟨.ref 306 :: [], []⟩)) (D + 1) (U + 1) l := by
  have e1 : (Code.builtin "type.__call__" ⟨.ref 306 :: [], []⟩).weight = 1 := by kernel_rfl
  have e2 : (Code.builtin "type.__call__" ⟨.ref 306 :: [], []⟩).cUnits = 1 := by kernel_rfl
  have e3 : (Code.builtin "type.__call__" ⟨.ref 306 :: [], []⟩).envs = [] := by kernel_rfl
  have e4 : (Code.builtin "type.__call__" ⟨.ref 306 :: [], []⟩).guards = [] := by kernel_rfl
  refine ⟨h.handled, ?_, ?_, ?_, ?_⟩
  · show A.depth + _ ≤ D + 1
    rw [e1]
    exact Nat.succ_le_succ h.depth
  · unfold Around.under
    rw [e3]
    exact h.frames
  · unfold Around.under
    rw [e4]
    exact h.guards
  · show A.units + _ ≤ U + 1
    rw [e2]
    exact Nat.succ_le_succ h.units
section
variable {prog : Program} {w : World} {A : Around} {E : Value → Shared → Prop} {s : Shared} {K : Frag} {x C dx L : Addr} {h₀ : Heap} {m : Str → Option Value} {news own fr₁ fr : Led} {outer : List Env} {es es' : List DictEntry} {n n' : Nat} {name : Str} {v : Value}
theorem u_set {Q : Unit → Shared → Prop} (F : Fr h₀ L s.heap m) (X₀ : K.In h₀) (N : News h₀ L s.heap news) (hc : Cut news own fr) (hx : (x, instObj C dx) ∈ own) (hd : (dx, dictOf es n) ∈ own) (t : Tl outer fr₁ fr) (O : Off own outer)
    (hs : findIn K (.ref C) "__setattr__" = some (some (.builtin "object.__setattr__"))) (hp : plainOver K C = true) (ht : takerIn K C name = some none) (hh : hasDictIn K C = true) (hl : (getL name es).isSome = true)
    (e : (putL name (PyData.keyHash w.params name) (.str name (s.toks + 1)) v es, putN name es n) = (es', n')) (hz : es'.length ≤ 1000)
    (h : ∀ h' own', Kp dx own own' → (dx, dictOf es' n') ∈ own' → Off own' outer → Fr h₀ L h' m → News h₀ L h' (own' ++ fr) → Q () { s with heap := h', toks := s.toks + 2 }) :
    wpAny (model prog w) A (setAttr (.ref x) name v) Q E s := by
  unfold Cut at hc
  subst hc
  have hd' : (dx, dictOf es n) ∈ own ++ fr := List.mem_append_left _ hd
  have N₁ : News h₀ L s.heap ((dx, dictOf es n) :: (own ++ fr).filter (fun p => decide (p.1 ≠ dx))) := fun p hp => by
    rcases List.mem_cons.mp hp with q | hp
    · rw [q]; exact N _ hd'
    · exact N p (List.mem_filter.mp hp).1
  refine set_dict F X₀ N₁ (InstAt.of_news N (List.mem_append_left _ hx) hd') rfl hs hp ht hh hl e (.head fun p hp => by simpa using (List.mem_filter.mp hp).2) hz fun h' F' N' => ?_
  have hdf : dx ∉ fr.map (·.1) := fun q => O _ hd (by rw [frs, t.1.addrs]; exact q)
  refine h h' (upd dx (dictOf es' n') own) upd_kp (upd_mem hd) (upd_off hd O) F' fun p hp => ?_
  rcases List.mem_append.mp hp with hp | hp
  · obtain ⟨q, hq, e'⟩ := List.mem_map.mp hp
    by_cases hqa : q.1 = dx
    · rw [if_pos hqa] at e'
      rw [← e']
      exact N' _ (.head _)
    · rw [if_neg hqa] at e'
      rw [← e']
      exact N' _ (.tail _ (List.mem_filter.mpr ⟨List.mem_append_left _ hq, by simpa using hqa⟩))
  · exact N' _ (.tail _ (List.mem_filter.mpr ⟨List.mem_append_right _ hp, by simp; exact fun q => hdf (q ▸ List.mem_map_of_mem hp)⟩))
end
end
local macro_rules | `(tactic| walk_at "pyIter ref") => `(tactic| refine Hold.of ?_)
local macro_rules | `(tactic| walk_at "exec For Name Name cons nil") => `(tactic| (k_here; (with_reducible show wpAny _ _ (exec (Stmt.For (Expr.Name _ _) _ _ [] _) _) _ _ _); (refine' For_invVF ?F ?a ?b ?_); (case F => k_asm); (case a => exact rfl); (case b => exact rfl)))
local macro_rules | `(tactic| walk_at "exec For Name Attribute cons nil") => `(tactic| (k_here; (with_reducible show wpAny _ _ (exec (Stmt.For (Expr.Name _ _) _ _ [] _) _) _ _ _); (refine' For_invVF ?F ?a ?b ?_); (case F => k_asm); (case a => exact rfl); (case b => exact rfl)))
local macro_rules | `(tactic| walk_at "setAttr ref") => `(tactic| (k_here; (refine' u_set ?k1 ?k2 ?k3 ?c ?h1 ?h2 ?t ?O ?k6 ?k7 ?k8 ?k9 ?k10 ?k11 ?k13 (fun h9 own9 kp9 hm9 O9 F9 N9 => ?_)); (case k1 => k_asm); (case k2 => k_asm); (case k3 => k_asm); (case c => acc_binds); (case h1 => k_mem); (case h2 => k_mem); (case t => with_reducible assumption); (case O => acc_keepN); (case k6 => k_is); (case k7 => k_is); (case k8 => k_is); (case k9 => k_is); (case k10 => k_get); (case k11 => k_put); (case k13 => exact Nat.le_of_ble_eq_true rfl)))
section
example : True := by w_top off; trivial
theorem c_update0 {w : World} {own : Led} {v0 : Value}  :
    Con w 205 378 790 [v0, .ref 29] own (fun v own' => own = own' ∧ v = .none) := by
  intro prog A E Q s h₀ L m mg mb env outer fr₁ fr p loose mean hA hf hk F X T N t O k
  refine enter (K := Mine.hd.heap_39 w.params) (args := ⟨[v0, .ref 29], []⟩) (binds := [("self", v0), ("iterable", .ref 29)]) hA hf hk F X T N t O (by k_is) (by k_is) (by decide) (BindsTo.of_eq rfl) (locs rfl) ?_ rfl rfl rfl (by decide)
  intro L' h₁ fr₂ F' N' t' O' bk
  refine PySem.wpAny_noRaise ?_
  try dsimp only
  clear F N t O
  ktr_unf
  unfold Hold
  have ht : h₀.IsTuple 29 #[] := by
    refine ⟨_, X _ _ (by k_is), rfl, _, rfl⟩
  refine loop_nil rfl (ht.at fun o e => F'.keep _ o e) ht F' N' fun h' tk' F2 N2 => ?_
  clear F' N'
  ktr_unf
  acc_keep
  exact ⟨rfl, rfl⟩
end
local macro_rules | `(tactic| walk_at "call ref") => `(tactic| (k_here; (with_reducible show wpAny _ _ (call (Value.ref 205) [_, Value.ref 29]) _ _ _); (refine' Con.use ?c ?hA ?hf ?hk ?F ?X ?T ?N ?hc ?t ?O (fun v9 h9 tk9 own9 fr9 T9 F9 N9 O9 R9 => ?_)); (case N => k_asm); (case hc => acc_binds); (case c => exact c_update0); (case hA => acc_state); (case hf => rfl); (case hk => rfl); (case F => k_asm); (case X => k_asm); (case T => k_asm); (case t => with_reducible assumption); (case O => acc_keepN); (obtain ⟨e9, e8⟩ := R9); subst e9; subst e8))
section
example : True := by w_top off; trivial
theorem c_new {w : World} {own : Led} : Con w 306 375 770 [] own (fun v own' => NewSet own own' v []) := by
  intro prog A E Q s h₀ L m mg mb env outer fr₁ fr p loose mean hA hf hk F X T N t O k
  refine call_cls (K := Mine.hd.heap_39 w.params) (fI := 37) F X N (by k_is) (by k_is) (by k_is) ?_
  intro x dx h9 F9 N9 l1 l2
  have n1 : dx ∉ frs outer := off_new (own := own) (allLt_of l1) t
  have n2 : x ∉ frs outer := off_new (own := own) (allLt_of fun p hp => Nat.lt_trans (l1 p hp) l2) t
  have N9' : News h₀ L h9 (((x, instObj 306 dx) :: (dx, dictOf [] 0) :: own) ++ fr) := N9
  refine enterC (K := Mine.hd.heap_39 w.params) (args := ⟨[.ref x], []⟩) hA.make hf hk F9 X T N9' t (Off.cons n2 (Off.cons n1 O)) (by k_is) (by k_is) (by decide) (by first | exact BindsTo.of_eq rfl | exact binds_K (by k_in) rfl (by k_is) rfl rfl rfl) (locs rfl) ?_ rfl rfl rfl (by decide)
  intro L' h₁ fr₂ F' N' t' O' bk
  refine PySem.wpAny_noRaise ?_
  try dsimp only
  clear F N t O F9 N9 N9'
  have N2 : News h₀ L' h₁ ((x, instObj 306 dx) :: (dx, dictOf [] 0) :: (own ++ fr₂)) := N'
  clear N'
  ktr_unf
  show Value.none = Value.none ∧ Q (.ref x) _
  refine ⟨rfl, ?_⟩
  rename Kp _ _ _ => kp
  rename (_ < _ ∧ _ ∧ _) => la
  acc_keep
  have ln := fun p hp => l1 p (List.mem_append_left _ hp)
  exact ⟨x, dx, _, rfl, ⟨by k_mem, ⟨_, _, by with_reducible assumption⟩, ⟨0, by k_mem⟩, fun y hy => (by cases hy), by acc_open, by acc_open, by acc_open⟩, fun p hp => kp p (.tail _ (.tail _ (.tail _ hp))) (Nat.ne_of_lt (ln p hp)), fun p hp => Nat.ne_of_lt (Nat.lt_trans (ln p hp) l2), fun p hp => Nat.ne_of_lt (ln p hp), fun p hp => Nat.ne_of_lt (Nat.lt_trans (ln p hp) la.2.1)⟩
end
section
example : True := by w_top off; trivial
/-- the other one: how it answers «in», and what it tells turn by turn -/
inductive Oth (own : Led) : Value → (Value → Bool) → List Value → Prop
  | set {S D Ls : Addr} {xs : List Value} : SetAt own S D Ls xs → xs.length ≤ 1000 → Oth own (.ref S) (has xs) xs
  | lst {l : Addr} {n : Nat} {ys : List Value} : (l, listOf ys.toArray n) ∈ own → (∀ y ∈ ys, Th y) → ys.length ≤ 1000 → Oth own (.ref l) (fun x => ys.any fun y => eqV y x) ys
theorem SetAt.toQ {own own' : Led} {S D Ls : Addr} {xs : List Value} (h : SetAt own S D Ls xs) (k : Kq own own') : SetAt own' S D Ls xs :=
  ⟨k _ h.hS, let ⟨a, b, c⟩ := h.hD; ⟨a, b, k _ c⟩, let ⟨a, b⟩ := h.hL; ⟨a, k _ b⟩, h.th, h.n1, h.n2, h.n3⟩
theorem SetAt.toP {own own' : Led} {S D Ls a : Addr} {xs : List Value} (h : SetAt own S D Ls xs) (k : Kp a own own') (n : New own a) : SetAt own' S D Ls xs :=
  ⟨k _ h.hS (n _ h.hS), let ⟨a, b, c⟩ := h.hD; ⟨a, b, k _ c (n _ c)⟩, let ⟨a, b⟩ := h.hL; ⟨a, k _ b (n _ b)⟩, h.th, h.n1, h.n2, h.n3⟩
theorem Oth.toQ {own own' : Led} {v : Value} {e : Value → Bool} {zs : List Value} (h : Oth own v e zs) (k : Kq own own') : Oth own' v e zs := by
  cases h with
  | set h z => exact .set (h.toQ k) z
  | lst h t z => exact .lst (k _ h) t z
theorem Oth.toP {own own' : Led} {v : Value} {e : Value → Bool} {zs : List Value} {a : Addr} (h : Oth own v e zs) (k : Kp a own own') (n : New own a) : Oth own' v e zs := by
  cases h with
  | set h z => exact .set (h.toP k n) z
  | lst h t z => exact .lst (k _ h (n _ h)) t z
theorem Oth.th {own : Led} {v : Value} {e : Value → Bool} {zs : List Value} (h : Oth own v e zs) : ∀ z ∈ zs, Th z := by
  cases h with
  | set h z => exact h.th
  | lst h t z => exact t
theorem Oth.le {own : Led} {v : Value} {e : Value → Bool} {zs : List Value} (h : Oth own v e zs) : zs.length ≤ 1000 := by
  cases h with
  | set h z => exact z
  | lst h t z => exact z

section
variable {prog : Program} {w : World} {A : Around} {E : Value → Shared → Prop} {s : Shared} {h₀ : Heap} {L : Addr} {m mg mb : Str → Option Value} {env : Env} {outer : List Env} {own fr₁ fr news : Led} {p : Program} {loose : List Str} {mean : ExcName → Option Value} {v x : Value} {e : Value → Bool} {zs : List Value}
theorem oth_in {Q : Value → Shared → Prop} (hA : Fits A 378 780 (env :: outer)) (hf : env.frame = some L) (hk : env.scope.kind = .function) (F : Fr h₀ L s.heap m) (X : (Mine.hd.heap_39 w.params).In h₀) (T : Top p loose mean mg mb h₀) (N : News h₀ L s.heap news) (hc : Cut news own fr) (t : Tl outer fr₁ fr) (O : Off own outer)
    (h : Oth own v e zs) (hx : Th x) (k : ∀ h' tk' fr', Tl outer fr₁ fr' → Fr h₀ L h' m → News h₀ L h' (own ++ fr') → Q (.bool (e x)) { s with heap := h', toks := tk' }) : wpAny (model prog w) A (compareOp .In x v) Q E s := by
  unfold Cut at hc
  subst hc
  refine hA.wp ?_
  cases h with
  | set h z =>
    obtain ⟨hsh, tk, hD⟩ := h.hD
    refine in_K (C := 306) (f := 184) F X (InstAt.of_news N (List.mem_append_left _ h.hS) (List.mem_append_left _ hD)) (by k_is) (by k_is) ?_
    refine Con.use (c_contains h hx z) (Fits.of (by decide) (by decide)) hf hk F X T N Cut.base t O ?_
    rintro v' h' tk' own' fr' t' F' N' O' ⟨rfl, rfl⟩
    exact wpAny_truthy_bool (k _ _ _ t' F' N')
  | lst h th z =>
    refine PySem.SeqAt.in_listAt (fun y => eqV y x) ⟨_, (N _ (List.mem_append_left _ h)).1, rfl, _, rfl⟩ (fun y hy => th_eqAt (th y (by simpa using hy)) hx) ?_
    have := k s.heap s.toks fr t F N
    simpa using this
theorem oth_notIn {Q : Value → Shared → Prop} (hA : Fits A 378 780 (env :: outer)) (hf : env.frame = some L) (hk : env.scope.kind = .function) (F : Fr h₀ L s.heap m) (X : (Mine.hd.heap_39 w.params).In h₀) (T : Top p loose mean mg mb h₀) (N : News h₀ L s.heap news) (hc : Cut news own fr) (t : Tl outer fr₁ fr) (O : Off own outer)
    (h : Oth own v e zs) (hx : Th x) (k : ∀ h' tk' fr', Tl outer fr₁ fr' → Fr h₀ L h' m → News h₀ L h' (own ++ fr') → Q (.bool (!e x)) { s with heap := h', toks := tk' }) : wpAny (model prog w) A (compareOp .NotIn x v) Q E s := by
  unfold Cut at hc
  subst hc
  refine hA.wp ?_
  cases h with
  | set h z =>
    obtain ⟨hsh, tk, hD⟩ := h.hD
    refine notIn_K (C := 306) (f := 184) F X (InstAt.of_news N (List.mem_append_left _ h.hS) (List.mem_append_left _ hD)) (by k_is) (by k_is) ?_
    refine Con.use (c_contains h hx z) (Fits.of (by decide) (by decide)) hf hk F X T N Cut.base t O ?_
    rintro v' h' tk' own' fr' t' F' N' O' ⟨rfl, rfl⟩
    exact wpAny_truthy_bool (k _ _ _ t' F' N')
  | lst h th z =>
    refine PySem.SeqAt.notIn_listAt (fun y => eqV y x) ⟨_, (N _ (List.mem_append_left _ h)).1, rfl, _, rfl⟩ (fun y hy => th_eqAt (th y (by simpa using hy)) hx) ?_
    have := k s.heap s.toks fr t F N
    simpa using this
end

section
variable {prog : Program} {w : World} {A : Around} {E : Value → Shared → Prop} {s : Shared} {env : Env} {h₀ : Heap} {x : Str} {body : List Stmt} {Q : Flow → Shared → Prop}
  {l a : Addr} {vs : List Value} {nn : Nat} {m₀ mg mb : Str → Option Value} {outer : List Env} {own own₀ fr₁ fr news : Led} {o : Obj} {p : Program} {loose : List Str} {mean : ExcName → Option Value} {v : Value} {e : Value → Bool}
theorem loop_list (J : Nat → (Str → Option Value) → Obj → Prop)
    (hh : A.handled = none) (F : Fr h₀ env.locals s.heap m₀) (N : News h₀ env.locals s.heap news) (hc : Cut news own fr) (t : Tl outer fr₁ fr) (O : Off own outer)
    (hl : (l, listOf vs.toArray nn) ∈ own) (ha : (a, o) ∈ own) (hla : l ≠ a) (hj : J 0 m₀ o)
    (turn : ∀ i v m₁ own₂ fr₂ o₂ h tk, vs[i]? = some v → Kp a own own₂ → (a, o₂) ∈ own₂ → J i m₁ o₂ → Tl outer fr₁ fr₂ → Off own₂ outer → Fr h₀ env.locals h (fun y => if y = x then some v else m₁ y) → News h₀ env.locals h (own₂ ++ fr₂) →
      wpAny (model prog w) A (execs body env) (TurnEnd h₀ env.locals outer fr₁ a own₂ (J (i + 1)) { s with heap := h, toks := tk } Q) E { s with heap := h, toks := tk })
    (done : ∀ m₁ own₂ fr₂ o₂ h tk, Kp a own own₂ → (a, o₂) ∈ own₂ → J vs.length m₁ o₂ → Tl outer fr₁ fr₂ → Off own₂ outer → Fr h₀ env.locals h m₁ → News h₀ env.locals h (own₂ ++ fr₂) → Q .next { s with heap := h, toks := tk }) :
    wpAny (model prog w) A (pyIter (.ref l)) (fun it s₂ => LoopAtV prog w A h₀ env x body Q E it s₂) E s := by
  unfold Cut at hc
  subst hc
  have hol : s.heap.get? l = some (listOf vs.toArray nn) := (N _ (List.mem_append_left _ hl)).1
  refine wpAny_pyIter_list ⟨_, hol, rfl, nn, rfl⟩ ?_
  have hlt : ∀ p ∈ own ++ fr, p.1 < s.heap.objs.size := fun p hp => Heap.lt_size (N p hp).1
  refine loop_at (s := { s with heap := s.heap.push (itObj l) }) J hh (Heap.get?_push_size _ rfl) (next_is_new F) (fun q => absurd F.ns.lt (q ▸ Nat.lt_irrefl _)) (fun p hp => Nat.ne_of_lt (hlt p (List.mem_append_left _ hp))) (off_new (allLt_of hlt) t) (F.push _) (fun p hp => ⟨Heap.get?_push_of_some _ (N p hp).1, (N p hp).2⟩) t O hl ha hla hj turn done

theorem loop_oth (J : Nat → (Str → Option Value) → Obj → Prop) (hA : Fits A 378 780 (env :: outer)) (hf : env.frame = some env.locals) (hk : env.scope.kind = .function) (X : (Mine.hd.heap_39 w.params).In h₀) (T : Top p loose mean mg mb h₀)
    (F : Fr h₀ env.locals s.heap m₀) (N : News h₀ env.locals s.heap news) (hc : Cut news own fr) (t : Tl outer fr₁ fr) (O : Off own outer)
    (hl : Oth own₀ v e vs) (hq : Kp a own₀ own) (hn : New own₀ a) (ha : (a, o) ∈ own) (hj : J 0 m₀ o)
    (turn : ∀ i v m₁ own₂ fr₂ o₂ h tk, vs[i]? = some v → Kp a own own₂ → (a, o₂) ∈ own₂ → J i m₁ o₂ → Tl outer fr₁ fr₂ → Off own₂ outer → Fr h₀ env.locals h (fun y => if y = x then some v else m₁ y) → News h₀ env.locals h (own₂ ++ fr₂) →
      wpAny (model prog w) A (execs body env) (TurnEnd h₀ env.locals outer fr₁ a own₂ (J (i + 1)) { s with heap := h, toks := tk } Q) E { s with heap := h, toks := tk })
    (done : ∀ m₁ own₂ fr₂ o₂ h tk, Kp a own own₂ → (a, o₂) ∈ own₂ → J vs.length m₁ o₂ → Tl outer fr₁ fr₂ → Off own₂ outer → Fr h₀ env.locals h m₁ → News h₀ env.locals h (own₂ ++ fr₂) → Q .next { s with heap := h, toks := tk }) :
    wpAny (model prog w) A (pyIter v) (fun it s₂ => LoopAtV prog w A h₀ env x body Q E it s₂) E s := by
  cases hl with
  | lst h th z => exact loop_list J hA.handled F N hc t O (hq _ h (hn _ h)) ha (hn _ h) hj turn done
  | set h z =>
    have h' := h.toP hq hn
    obtain ⟨hsh, tk, hD⟩ := h'.hD
    obtain ⟨n, hL⟩ := h'.hL
    obtain ⟨n9, hL9⟩ := h.hL
    have hLa := hn _ hL9
    unfold Cut at hc
    subst hc
    refine owit_iter (C := 306) (f := 58) F X (InstAt.of_news N (List.mem_append_left _ h'.hS) (List.mem_append_left _ hD)) (by k_is) (by k_is) ?_
    refine Con.use (c_iter h' z) ⟨hA.handled, Nat.le_trans hA.depth (by decide), hA.frames, hA.guards, Nat.le_trans hA.units (by decide)⟩ hf hk F X T N Cut.base t O ?_
    rintro v' h1 tk' own' fr' t' F' N' O' ⟨I, rfl, rfl, nI⟩
    unfold OwitIt
    have hI := N' _ (List.mem_append_left _ (.head _))
    refine wpAny_specialOf (T := "list_iterator") ⟨_, hI.1, rfl⟩ slot_listiter_next.lookup ?_
    exact loop_at (s := { s with heap := h1, toks := tk' }) J hA.handled hI.1 hI.2.2 hI.2.1 nI (O' _ (.head _)) F' (fun p hp => N' p (.tail _ hp)) t' (fun p hp => O' p (.tail _ hp)) hL ha hLa hj turn done
end
end
section
example : True := by w_top off; trivial
/-- one by one into an empty set -/
def mk (l : List Value) : List Value := l.foldl ins []
theorem foldl_ins_length : ∀ (l acc : List Value), (l.foldl ins acc).length ≤ acc.length + l.length
  | [], acc => Nat.le_refl _
  | x :: l, acc => by
    have h1 := foldl_ins_length l (ins acc x)
    have h2 := ins_length acc x
    simp only [List.foldl_cons, List.length_cons]
    omega
theorem mk_length (l : List Value) : (mk l).length ≤ l.length := by
  have := foldl_ins_length l []
  simpa [mk] using this
theorem foldl_ins_th (l : List Value) : ∀ (acc : List Value), (∀ y ∈ acc, Th y) → (∀ y ∈ l, Th y) → ∀ y ∈ l.foldl ins acc, Th y := by
  induction l with
  | nil => intro acc h _; exact h
  | cons x l ih => intro acc h k; exact ih _ (ins_th h (k _ (.head _))) fun y hy => k y (.tail _ hy)
theorem mk_th {l : List Value} (h : ∀ y ∈ l, Th y) : ∀ y ∈ mk l, Th y := foldl_ins_th l [] (fun y hy => by cases hy) h
theorem mk_snoc (l : List Value) (x : Value) : mk (l ++ [x]) = ins (mk l) x := by
  unfold mk; rw [List.foldl_append]; rfl
def sel (e : Value → Bool) (xs : List Value) (i : Nat) : List Value := mk ((xs.take i).filter e)
theorem take_snoc {xs : List Value} {i : Nat} {x : Value} (h : xs[i]? = some x) : xs.take (i + 1) = xs.take i ++ [x] := by
  rw [List.take_succ, h]; rfl
theorem sel_t {e : Value → Bool} {xs : List Value} {i : Nat} {x : Value} (h : xs[i]? = some x) (he : e x = true) : sel e xs (i + 1) = ins (sel e xs i) x := by
  unfold sel
  rw [take_snoc h, List.filter_append, ← mk_snoc]
  simp [he]
theorem sel_f {e : Value → Bool} {xs : List Value} {i : Nat} {x : Value} (h : xs[i]? = some x) (he : e x = false) : sel e xs (i + 1) = sel e xs i := by
  unfold sel
  rw [take_snoc h, List.filter_append]
  simp [he]
theorem sel_all {e : Value → Bool} {xs : List Value} : sel e xs xs.length = mk (xs.filter e) := by unfold sel; rw [List.take_length]
theorem sel_th {e : Value → Bool} {xs : List Value} {i : Nat} (h : ∀ y ∈ xs, Th y) : ∀ y ∈ sel e xs i, Th y := mk_th fun y hy => h y (List.mem_of_mem_take (List.mem_filter.mp hy).1)
theorem sel_length {e : Value → Bool} {xs : List Value} {i : Nat} : (sel e xs i).length ≤ xs.length := by
  have h1 := mk_length ((xs.take i).filter e)
  have h2 := List.length_filter_le e (xs.take i)
  have h3 := List.length_take_le i xs
  unfold sel
  have h4 : (xs.take i).length ≤ xs.length := by rw [List.length_take]; omega
  omega
theorem copy_led {prog : Program} {w : World} {A : Around} {E : Value → Shared → Prop} {s : Shared} {h₀ : Heap} {L l : Addr} {m : Str → Option Value} {news own fr : Led} {xs : List Value} {n : Nat} {Q : Value → Shared → Prop} (F : Fr h₀ L s.heap m) (N : News h₀ L s.heap news) (hc : Cut news own fr) (hp : (l, listOf xs.toArray n) ∈ own) (hz : xs.length ≤ 1000)
    (h : ∀ D c h', Fr h₀ L h' m → News h₀ L h' ((D, listOf xs.toArray c) :: news) → AllLt D news → Q (.ref D) { s with heap := h' }) :
    wpAny (model prog w) A (call (.type "list") [.ref l]) Q E s :=
  list_copyK F N ⟨_, (N _ (hc.mem hp)).1, rfl, _, rfl⟩ (fun D c h' F' N' l1 => h D c h' F' N' (allLt_of l1)) (by rw [List.size_toArray]; exact sizeLine_ge (by omega))
end
local macro_rules | `(tactic| walk_at "call ref") => `(tactic| (k_here; (with_reducible show wpAny _ _ (call (Value.ref 306) _ _) _ _ _); refine Hold.of ?_))
local macro_rules | `(tactic| walk_at "compareOp In") => `(tactic| (k_here; (refine' oth_in ?hA ?hf ?hk ?F ?X ?T ?N ?hc ?t ?O ?h ?x (fun h9 tk9 fr9 T9 F9 N9 => ?_)); (case N => k_asm); (case hc => acc_binds); (case h => with_reducible assumption); (case x => tb_start); (case hA => acc_state); (case hf => rfl); (case hk => rfl); (case F => k_asm); (case X => k_asm); (case T => k_asm); (case t => with_reducible assumption); (case O => acc_keepN)))
local macro_rules | `(tactic| walk_at "compareOp NotIn") => `(tactic| (k_here; (refine' oth_notIn ?hA ?hf ?hk ?F ?X ?T ?N ?hc ?t ?O ?h ?x (fun h9 tk9 fr9 T9 F9 N9 => ?_)); (case N => k_asm); (case hc => acc_binds); (case h => with_reducible assumption); (case x => tb_start); (case hA => acc_state); (case hf => rfl); (case hk => rfl); (case F => k_asm); (case X => k_asm); (case T => k_asm); (case t => with_reducible assumption); (case O => acc_keepN)))
local macro_rules | `(tactic| walk_at "call type:list") => `(tactic| (k_here; (with_reducible show wpAny _ _ (call (Value.type _) [Value.ref _]) _ _ _); (refine' copy_led ?F ?N ?c ?p ?z (fun D9 c9 h9 F9 N9 a9 => ?_)); (case N => k_asm); (case c => acc_binds); (case p => k_mem); (case z => first | assumption | omega); (case F => k_asm)))
local macro_rules | `(tactic| acc_open) => `(tactic| first | exact New.ne (New.of (by with_reducible assumption) (by acc_binds)) (by with_reducible assumption) | exact ne_flip (New.ne (New.of (by with_reducible assumption) (by acc_binds)) (by with_reducible assumption)))
section
example : True := by w_top off; trivial
theorem c_copy {w : World} {own : Led} {S D Ls : Addr} {xs : List Value} (h : SetAt own S D Ls xs) (hz : xs.length ≤ 1000) :
    Con w 219 370 700 [.ref S] own (fun v own' => NewSet own own' v xs) := by
  obtain ⟨hS, ⟨hsh, tk, hD⟩, ⟨n, hL⟩, hth, hn1, hn2, hn3⟩ := h
  intro prog A E Q s h₀ L m mg mb env outer fr₁ fr p loose mean hA hf hk F X T N t O k
  refine enter (K := Mine.hd.heap_39 w.params) (args := ⟨[.ref S], []⟩) (binds := [("self", .ref S)]) hA hf hk F X T N t O (by k_is) (by k_is) (by decide) (BindsTo.of_eq rfl) (locs rfl) ?_ rfl rfl rfl (by decide)
  intro L' h₁ fr₂ F' N' t' O' bk
  refine PySem.wpAny_noRaise ?_
  try dsimp only
  clear F N t O
  ktr_unf
  unfold Hold
  (rename Fr h₀ L' _ _ => F1; rename News h₀ L' _ _ => N1)
  refine Con.use c_new (Fits.of (by decide) (by decide)) rfl rfl F1 X T N1 Cut.base t' O' ?_
  rintro v1 h2 tk2 own2 fr3 t2 F2 N2 O2 ⟨⟨S1, D1, L1, rfl, ⟨hS1, ⟨hsh1, tk1, hD1⟩, ⟨n1, hL1⟩, hth1, a1, a2, a3⟩, kq, nS, nD, nL⟩⟩
  clear F1 N1
  ktr_unf
  (rename Kp D1 _ _ => kp5; rename ((D1, _) ∈ _) => hm5; rename AllLt _ _ => al)
  acc_keep
  exact ⟨S1, D1, _, rfl, ⟨by k_mem, ⟨_, _, hm5⟩, ⟨_, by k_mem⟩, hth, by acc_open, by acc_open, a3⟩, fun p hp => kp5 p (.tail _ (kq p hp)) (nD p hp), nS, nD, fun p hp => New.of al (by acc_binds) p (kq p hp)⟩
theorem c_diff {w : World} {own : Led} {S D Ls : Addr} {xs zs : List Value} {v0 : Value} {e : Value → Bool} (h : SetAt own S D Ls xs) (hO : Oth own v0 e zs) (hz : xs.length ≤ 1000) :
    Con w 289 370 700 [.ref S, v0] own (fun v own' => NewSet own own' v (mk (xs.filter (fun x => !e x)))) := by
  obtain ⟨hS, ⟨hsh, tk, hD⟩, ⟨n, hL⟩, hth, hn1, hn2, hn3⟩ := h
  intro prog A E Q s h₀ L m mg mb env outer fr₁ fr p loose mean hA hf hk F X T N t O k
  refine enter (K := Mine.hd.heap_39 w.params) (args := ⟨[.ref S, v0], []⟩) (binds := [("self", .ref S), ("other", v0)]) hA hf hk F X T N t O (by k_is) (by k_is) (by decide) (BindsTo.of_eq rfl) (locs rfl) ?_ rfl rfl rfl (by decide)
  intro L' h₁ fr₂ F' N' t' O' bk
  refine PySem.wpAny_noRaise ?_
  try dsimp only
  clear F N t O
  ktr_unf
  unfold Hold
  (rename Fr h₀ L' _ _ => F1; rename News h₀ L' _ _ => N1)
  refine Con.use c_new (Fits.of (by decide) (by decide)) rfl rfl F1 X T N1 Cut.base t' O' ?_
  rintro v1 h2 tk2 own2 fr3 t2 F2 N2 O2 ⟨⟨S1, D1, L1, rfl, ⟨hS1, ⟨hsh1, tk1, hD1⟩, ⟨n1, hL1⟩, hth1, a1, a2, a3⟩, kq, nS, nD, nL⟩⟩
  clear F1 N1
  ktr_unf
  unfold Hold
  (rename Fr h₀ L' _ _ => F1; rename News h₀ L' _ _ => N1)
  refine loop_list (a := L1) (fun i m o => ∃ nn u, o = listOf (sel (fun x => !e x) xs i).toArray nn ∧ m = kb [("diff", .ref S1), ("other", v0), ("self", .ref S)] u) rfl F1 N1 Cut.base t2 O2 (by k_mem) hL1 (by acc_open) ⟨n1, _, rfl, (kb_self (by exact ⟨rfl, rfl, rfl, trivial⟩)).symm⟩ ?_ ?_
  · clear F1 N1
    rintro i x m1 own3 fr4 o2 h tk hx kp ho ⟨nn, u, rfl, rfl⟩ t4 O4 F4 N4
    have hO3 := hO.toP (kq.then kp) nL
    have hTx : Th x := hth _ (List.mem_of_getElem? hx)
    have hths := sel_th (e := (fun x => !e x)) (i := i) hth
    have hlen : (sel (fun x => !e x) xs i).length ≤ 1000 := Nat.le_trans sel_length hz
    ktr_unf
    · rename (_ = true) => he
      (rename Fr h₀ L' _ _ => F5; rename News h₀ L' _ _ => N5)
      rw [← sel_f (e := (fun x => !e x)) hx (by rw [he]; rfl)] at ho
      exact ⟨_, _, _, _, _, _, rfl, F5, N5, by with_reducible assumption, O4, Kp.refl, ho, _, _, rfl, (kb_self (by exact ⟨rfl, rfl, rfl, trivial⟩)).symm⟩
    · rename (_ = false) => he
      (rename Fr h₀ L' _ _ => F5; rename News h₀ L' _ _ => N5; rename Kp L1 own3 _ => kp5; rename (_ ∈ _) => hm5)
      rw [← sel_t (e := (fun x => !e x)) hx (by rw [he]; rfl)] at hm5
      exact ⟨_, _, _, _, _, _, rfl, F5, N5, by with_reducible assumption, by with_reducible assumption, kp5, hm5, _, _, rfl, (kb_self (by exact ⟨rfl, rfl, rfl, trivial⟩)).symm⟩
  · clear F1 N1
    rintro m1 own3 fr4 o2 h tk kp ho ⟨nn, u, rfl, rfl⟩ t4 O4 F4 N4
    rw [sel_all] at ho
    ktr_unf
    acc_keep
    exact ⟨S1, D1, L1, rfl, ⟨by k_mem, ⟨_, _, by k_mem⟩, ⟨_, ho⟩, mk_th fun y hy => hth y (List.mem_filter.mp hy).1, a1, a2, a3⟩, fun p hp => kp p (kq p hp) (nL p hp), nS, nD, nL⟩
theorem c_intersect {w : World} {own : Led} {S D Ls : Addr} {xs zs : List Value} {v0 : Value} {e : Value → Bool} (h : SetAt own S D Ls xs) (hO : Oth own v0 e zs) (hz : xs.length ≤ 1000) :
    Con w 296 370 700 [.ref S, v0] own (fun v own' => NewSet own own' v (mk (xs.filter e))) := by
  obtain ⟨hS, ⟨hsh, tk, hD⟩, ⟨n, hL⟩, hth, hn1, hn2, hn3⟩ := h
  intro prog A E Q s h₀ L m mg mb env outer fr₁ fr p loose mean hA hf hk F X T N t O k
  refine enter (K := Mine.hd.heap_39 w.params) (args := ⟨[.ref S, v0], []⟩) (binds := [("self", .ref S), ("other", v0)]) hA hf hk F X T N t O (by k_is) (by k_is) (by decide) (BindsTo.of_eq rfl) (locs rfl) ?_ rfl rfl rfl (by decide)
  intro L' h₁ fr₂ F' N' t' O' bk
  refine PySem.wpAny_noRaise ?_
  try dsimp only
  clear F N t O
  ktr_unf
  unfold Hold
  (rename Fr h₀ L' _ _ => F1; rename News h₀ L' _ _ => N1)
  refine Con.use c_new (Fits.of (by decide) (by decide)) rfl rfl F1 X T N1 Cut.base t' O' ?_
  rintro v1 h2 tk2 own2 fr3 t2 F2 N2 O2 ⟨⟨S1, D1, L1, rfl, ⟨hS1, ⟨hsh1, tk1, hD1⟩, ⟨n1, hL1⟩, hth1, a1, a2, a3⟩, kq, nS, nD, nL⟩⟩
  clear F1 N1
  ktr_unf
  unfold Hold
  (rename Fr h₀ L' _ _ => F1; rename News h₀ L' _ _ => N1)
  refine loop_list (a := L1) (fun i m o => ∃ nn u, o = listOf (sel e xs i).toArray nn ∧ m = kb [("isect", .ref S1), ("other", v0), ("self", .ref S)] u) rfl F1 N1 Cut.base t2 O2 (by k_mem) hL1 (by acc_open) ⟨n1, _, rfl, (kb_self (by exact ⟨rfl, rfl, rfl, trivial⟩)).symm⟩ ?_ ?_
  · clear F1 N1
    rintro i x m1 own3 fr4 o2 h tk hx kp ho ⟨nn, u, rfl, rfl⟩ t4 O4 F4 N4
    have hO3 := hO.toP (kq.then kp) nL
    have hTx : Th x := hth _ (List.mem_of_getElem? hx)
    have hths := sel_th (e := e) (i := i) hth
    have hlen : (sel e xs i).length ≤ 1000 := Nat.le_trans sel_length hz
    ktr_unf
    · rename (_ = true) => he
      (rename Fr h₀ L' _ _ => F5; rename News h₀ L' _ _ => N5; rename Kp L1 own3 _ => kp5; rename (_ ∈ _) => hm5)
      rw [← sel_t (e := e) hx he] at hm5
      exact ⟨_, _, _, _, _, _, rfl, F5, N5, by with_reducible assumption, by with_reducible assumption, kp5, hm5, _, _, rfl, (kb_self (by exact ⟨rfl, rfl, rfl, trivial⟩)).symm⟩
    · rename (_ = false) => he
      (rename Fr h₀ L' _ _ => F5; rename News h₀ L' _ _ => N5)
      rw [← sel_f (e := e) hx he] at ho
      exact ⟨_, _, _, _, _, _, rfl, F5, N5, by with_reducible assumption, O4, Kp.refl, ho, _, _, rfl, (kb_self (by exact ⟨rfl, rfl, rfl, trivial⟩)).symm⟩
  · clear F1 N1
    rintro m1 own3 fr4 o2 h tk kp ho ⟨nn, u, rfl, rfl⟩ t4 O4 F4 N4
    rw [sel_all] at ho
    ktr_unf
    acc_keep
    exact ⟨S1, D1, L1, rfl, ⟨by k_mem, ⟨_, _, by k_mem⟩, ⟨_, ho⟩, mk_th fun y hy => hth y (List.mem_filter.mp hy).1, a1, a2, a3⟩, fun p hp => kp p (kq p hp) (nL p hp), nS, nD, nL⟩
end
section
example : True := by w_top off; trivial
def tupOf (vs : List Value) : Obj := { cls := .type "tuple", data := .seq vs.toArray }
section
variable {prog : Program} {w : World} {A : Around} {E : Value → Shared → Prop} {Q : Value → Shared → Prop} {s : Shared} {K : Frag} {h₀ : Heap} {L f : Addr} {m mg mb : Str → Option Value} {env : Env} {outer : List Env} {own fr₁ fr : Led} {p : Program} {loose : List Str} {mean : ExcName → Option Value}
  {D U : Nat} {name qual nr : Str} {params : Arguments} {body : List Stmt} {scope : Scope} {dV kV doc pm cdv ct oc : Value} {an od : Option Addr} {osl : Array (Option Value)} {args : Args} {binds : List (Str × Value)} {vs : List Value}
/-- a def with *args is called -/
theorem enterV (hA : Fits A D U (env :: outer)) (hf : env.frame = some L) (hk : env.scope.kind = .function) (F : Fr h₀ L s.heap m) (X : K.In h₀) (T : Top p loose mean mg mb h₀) (N : News h₀ L s.heap (own ++ fr)) (t : Tl outer fr₁ fr) (O : Off own outer)
    (ho : K.lookup f = some ⟨oc, od, .func (fnOf name qual params body scope dV kV doc pm an cdv ct), osl⟩) (hcd : codeIn K cdv qual = true) (hroom : D < recursionLimit)
    (hbind : bindArgs (fnOf name qual params body scope dV kV doc pm an cdv ct) args = (newTuple vs >>= fun t => pure (binds ++ [(nr, t)]))) (hvs : vs.length ≤ 1000)
    (hloc : ∀ v, ∀ y ∈ binds ++ [(nr, v)], scope.names.lookup y.1 = some .local)
    (h : ∀ T' L' h₁ fr₂, Fr h₀ L' h₁ (fun y => (binds ++ [(nr, Value.ref T')]).reverse.lookup y) → News h₀ L' h₁ ((T', tupOf vs) :: (own ++ fr₂)) → Tl (env :: outer) fr₂ fr₂ → Off ((T', tupOf vs) :: own) (env :: outer) → New own T' → Bk h₀ L L' m env outer fr₁ fr₂ →
      wpAny (model prog w) (AC (D + 1) (U + 3) (envOf qual scope L' f cdv :: env :: outer)) (execs body (envOf qual scope L' f cdv))
        (fun fl s' => Q (match fl with | .ret v => v | _ => .none) s')
        (fun e s' => wpAny (model prog w) (AC (D + 1) (U + 3) (envOf qual scope L' f cdv :: env :: outer)) («leaving» (envOf qual scope L' f cdv) e) (fun _ s'' => E e s'') (fun e' s'' => E e' s'') s')
        { s with heap := h₁, toks := s.toks + (binds ++ [(nr, Value.ref T')]).length })
    (hco : scope.isCoroutine = false) (hgen : scope.isGenerator = false) (hks : scope.kind = .function) (hcell : ∀ x ∈ scope.names, x.2 ≠ .cell) :
    wpAny (model prog w) A (call (.ref f) args.pos args.kw) Q E s := by
  refine wpAny_call (hA.code ?_)
  obtain ⟨oL, es, ep, hL, hLd, hLk, hLf⟩ := F.ns
  have X' := X.keeps F.keep
  refine codeAny_call_function (fd := fnOf name qual params body scope dV kV doc pm an cdv ct) (body := body) hroom (X' _ _ ho) rfl hco hgen rfl (codeRec_of X' hcd) ?_
  rw [hbind]
  refine wpAny_bind (wpAny_newTuple (wpAny_pure ?_) (sizeLine_ge (by omega)))
  have F₁ := F.push (tupOf vs)
  have N₁ : News h₀ L (s.heap.push (tupOf vs)) (((s.heap.objs.size, tupOf vs) :: own) ++ fr) := News.push F N (tupOf vs) rfl
  have hlt0 : ∀ q ∈ own ++ fr, q.1 < s.heap.objs.size := fun q hq => Heap.lt_size (N q hq).1
  have hTn : s.heap.objs.size ∉ frs outer := off_new (allLt_of hlt0) t
  have hL₁ : (s.heap.push (tupOf vs)).get? L = some oL := Heap.get?_push_of_some _ hL
  refine wpAny_newFunctionEnv hcell (hloc _) (fun h₁ hns hsb => ⟨((T.nolimit.keeps F.keep).keeps fun b o e => Heap.get?_push_of_some _ e).fresh _ hsb, codeAny_func ?_⟩) hks
  have hk₁ : ∀ b o, (s.heap.push (tupOf vs)).get? b = some o → h₁.get? b = some o := fun b o e => hsb.extBut b o (Nat.ne_of_lt (Heap.lt_size e)) (Heap.get?_push_of_some _ e)
  have hLt := Heap.lt_size hL₁
  have hne : ∀ b, ((s.heap.push (tupOf vs)).get? b).isSome = true → b ≠ (s.heap.push (tupOf vs)).objs.size := fun b hb q => by
    rw [q, Heap.get?_none_of_le (Nat.le_refl _)] at hb; cases hb
  refine wpAny_mono (h s.heap.objs.size (s.heap.push (tupOf vs)).objs.size h₁ ((L, oL) :: fr) ⟨hns, fun b o e => hk₁ b o (F₁.keep b o e), Nat.le_trans F₁.above (Nat.le_of_lt hLt)⟩ (fun q hq => ?_) (Tl.refl ⟨by rw [hk]; decide, hf, ⟨es, ep, hLd⟩, t.1⟩) (Off.cons ?_ fun q hq hm => ?_) (fun q hq => Nat.ne_of_lt (hlt0 q (List.mem_append_left _ hq))) (bk_of F N hL hf t)) (fun fl s' hq => hq) fun _ _ x => x
  · rcases List.mem_cons.mp hq with e | hq
    · obtain ⟨a, b, c⟩ := N₁ q (List.mem_append_left _ (by rw [e]; exact .head _))
      exact ⟨hk₁ _ _ a, hne _ (by rw [a]; rfl), c⟩
    · rcases List.mem_append.mp hq with hq | hq
      · obtain ⟨a, b, c⟩ := N₁ q (List.mem_append_left _ (.tail _ hq))
        exact ⟨hk₁ _ _ a, hne _ (by rw [a]; rfl), c⟩
      · rcases List.mem_cons.mp hq with e | hq
        · rw [e]
          exact ⟨hk₁ _ _ hL₁, Nat.ne_of_lt hLt, Heap.get?_none_of_le F.above⟩
        · obtain ⟨a, b, c⟩ := N₁ q (List.mem_append_right _ hq)
          exact ⟨hk₁ _ _ a, hne _ (by rw [a]; rfl), c⟩
  · intro hm
    rw [frs, List.filterMap_cons, hf] at hm
    rcases List.mem_cons.mp hm with e | hm
    · exact absurd (Heap.lt_size hL) (e ▸ Nat.lt_irrefl _)
    · exact hTn hm
  · rw [frs, List.filterMap_cons, hf] at hm
    rcases List.mem_cons.mp hm with e | hm
    · exact (N q (List.mem_append_left _ hq)).2.1 e
    · exact O q hq hm
end

/-- a turn's end, the ledger at large -/
def TurnEndG (h₀ : Heap) (L : Addr) (outer : List Env) (fr₁ : Led) (I : Addr) (oI : Obj) (keep : Led) (J : (Str → Option Value) → Led → Prop) (s₁ : Shared) (Q : Flow → Shared → Prop) (f : Flow) (s₂ : Shared) : Prop :=
  match f with
  | .ret v => Q (.ret v) s₂
  | .brk => Q .next s₂
  | _ => ∃ h' tk m' own' fr', s₂ = { s₁ with heap := h', toks := tk } ∧ Fr h₀ L h' m' ∧ News h₀ L h' (own' ++ fr') ∧ Tl outer fr₁ fr' ∧ Off own' outer ∧ (I, oI) ∈ own' ∧ Kq keep own' ∧ J m' (own'.filter fun p => decide (p.1 ≠ I))
section
variable {prog : Program} {w : World} {A : Around} {E : Value → Shared → Prop} {s : Shared} {env : Env} {h₀ : Heap} {x : Str} {body : List Stmt} {Q : Flow → Shared → Prop}
theorem loop_gen {I : Addr} {fp : List Addr} {n : Nat} {P : Nat → Value → Prop} {St : Nat → Heap → Prop} {oI₀ : Obj} {m₀ : Str → Option Value} {outer : List Env} {own keep fr₁ fr : Led} (W : Walks prog w A I fp [I] n P St) (hst : St 0 s.heap) (J : Nat → (Str → Option Value) → Led → Prop)
    (hI : s.heap.get? I = some oI₀) (hIh : ∀ i h, St i h → ∃ o, h.get? I = some o) (hfp : I ∈ fp) (hI0 : h₀.get? I = none) (hIL : I ≠ env.locals) (nI : New own I) (oI : I ∉ frs outer)
    (F : Fr h₀ env.locals s.heap m₀) (N : News h₀ env.locals s.heap (own ++ fr)) (t : Tl outer fr₁ fr) (O : Off own outer) (hkeep : Kq keep own) (hfk : ∀ b ∈ fp, b = I ∨ ∃ ob, (b, ob) ∈ keep) (hj : J 0 m₀ own)
    (turn : ∀ i v m₁ own₁ fr₂ oI h tk, i < n → P i v → Kq keep own₁ → J i m₁ own₁ → New own₁ I → Tl outer fr₁ fr₂ → Off ((I, oI) :: own₁) outer → Fr h₀ env.locals h (fun y => if y = x then some v else m₁ y) → News h₀ env.locals h ((I, oI) :: (own₁ ++ fr₂)) →
      wpAny (model prog w) A (execs body env) (TurnEndG h₀ env.locals outer fr₁ I oI keep (J (i + 1)) { s with heap := h, toks := tk } Q) E { s with heap := h, toks := tk })
    (done : ∀ m₁ own₁ fr₂ h tk, Kq keep own₁ → J n m₁ own₁ → Tl outer fr₁ fr₂ → Off own₁ outer → Fr h₀ env.locals h m₁ → News h₀ env.locals h (own₁ ++ fr₂) → Q .next { s with heap := h, toks := tk }) :
    LoopAtV prog w A h₀ env x body Q E (.ref I) s := by
  have hfrI : ∀ {fr' : Led}, Tl outer fr₁ fr' → ∀ p ∈ fr', p.1 ≠ I := fun t' p hp e => oI (by rw [frs, t'.1.addrs, ← e]; exact List.mem_map_of_mem hp)
  have nIk : New keep I := fun p hp => nI p (hkeep p hp)
  refine ⟨I, _, _, n, _, _, m₀, own ++ fr, (fun i m nx => ∃ own₁ fr', nx = own₁ ++ fr' ∧ Tl outer fr₁ fr' ∧ Off own₁ outer ∧ Kq keep own₁ ∧ J i m own₁), rfl, W, ?_, ?_, ?_, hst, F, N, ⟨own, fr, rfl, t, O, hkeep, hj⟩, ?_, ?_⟩
  · intro hm
    rcases hfk _ hm with e | ⟨ob, hb⟩
    · exact hIL e.symm
    · exact (N _ (List.mem_append_left _ (hkeep _ hb))).2.1 rfl
  · intro b hb
    rw [List.mem_singleton.mp hb]
    exact hI0
  · intro p hp hI'
    have e := List.mem_singleton.mp hI'
    rcases List.mem_append.mp hp with hp | hp
    · exact nI p hp e
    · exact hfrI t p hp e
  · rintro i v m₁ news₁ s₁ ownF ⟨hh', tk', rfl⟩ hin hP ⟨own₁, fr', rfl, t', O', kk, hJ⟩ hoff hown hget hfpo hst' F₁ N₁
    obtain ⟨oI', hoI⟩ := hIh _ _ hst'
    have hIown : (I, oI') ∈ ownF := hfpo _ hfp hI0 _ hoI
    have nI₁ : ∀ p ∈ own₁ ++ fr', p.1 ≠ I := fun p hp e => hoff p hp (List.mem_singleton.mpr e)
    have N₂ : News h₀ env.locals hh' ((I, oI') :: (own₁ ++ fr')) := fun p hp => by
      rcases List.mem_cons.mp hp with e | hp
      · rw [e]; exact N₁ _ (List.mem_append_left _ hIown)
      · exact N₁ p (List.mem_append_right _ hp)
    refine wpAny_mono (turn i v m₁ own₁ fr' oI' hh' tk' hin hP kk hJ (fun p hp => nI₁ p (List.mem_append_left _ hp)) t' (Off.cons oI O') F₁ N₂) (fun f s₂ p => ?_) fun _ _ e => e
    have fin : (∃ h' tk m' own' fr', s₂ = { s with heap := h', toks := tk } ∧ Fr h₀ env.locals h' m' ∧ News h₀ env.locals h' (own' ++ fr') ∧ Tl outer fr₁ fr' ∧ Off own' outer ∧ (I, oI') ∈ own' ∧ Kq keep own' ∧ J (i + 1) m' (own'.filter fun p => decide (p.1 ≠ I))) →
        LoopStepU h₀ env.locals [I] ownF (fun m nx => ∃ own₁ fr', nx = own₁ ++ fr' ∧ Tl outer fr₁ fr' ∧ Off own₁ outer ∧ Kq keep own₁ ∧ J (i + 1) m own₁) { s with heap := hh', toks := tk' } .next s₂ := by
      rintro ⟨h', tk, m', own', fr'', e, F', N', t'', O'', hI', kk', hj'⟩
      refine ⟨rfl, h', tk, m', own'.filter (fun p => decide (p.1 ≠ I)) ++ fr'', e, F', fun p hp => ?_, fun p hp hq => ?_, _, fr'', rfl, t'', fun p hp => O'' p (List.mem_filter.mp hp).1, fun p hp => List.mem_filter.mpr ⟨kk' p hp, by simpa using nIk p hp⟩, hj'⟩
      · rcases List.mem_append.mp hp with h | h
        · rcases hfk _ (hown p h) with h1 | ⟨ob, hb⟩
          · have h2 := hget p h
            rw [h1, hoI] at h2
            have h3 : p = (I, oI') := Prod.ext h1 (Option.some.inj h2).symm
            rw [h3]
            exact N' _ (List.mem_append_left _ hI')
          · have h2 := hget p h
            have h4 := (N₁ _ (List.mem_append_right _ (List.mem_append_left _ (kk _ hb)))).1
            rw [h4] at h2
            have h3 : p = (p.1, ob) := Prod.ext rfl (Option.some.inj h2).symm
            rw [h3]
            exact N' _ (List.mem_append_left _ (kk' _ hb))
        · rcases List.mem_append.mp h with h | h
          · exact N' p (List.mem_append_left _ (List.mem_filter.mp h).1)
          · exact N' p (List.mem_append_right _ h)
      · have e := List.mem_singleton.mp hq
        rcases List.mem_append.mp hp with hp | hp
        · exact (by simpa using (List.mem_filter.mp hp).2 : p.1 ≠ I) e
        · exact hfrI t'' p hp e
    cases f with
    | ret v => exact .ret p
    | brk => exact .brk p
    | next => exact .next (fin p)
    | cont => exact .cont (fin p)
  · rintro h' tk m' news' F' N' _ ⟨own₁, fr', rfl, t', O', kk, hJ⟩
    exact done m' own₁ fr' h' tk kk hJ t' O' F' N'

theorem loop_tup {l : Addr} {vs : List Value} {m₀ : Str → Option Value} {outer : List Env} {own fr₁ fr news : Led} (J : Nat → (Str → Option Value) → Led → Prop)
    (hh : A.handled = none) (F : Fr h₀ env.locals s.heap m₀) (N : News h₀ env.locals s.heap news) (hc : Cut news own fr) (t : Tl outer fr₁ fr) (O : Off own outer) (hl : (l, tupOf vs) ∈ own) (hj : J 0 m₀ own)
    (turn : ∀ I i v m₁ own₁ fr₂ oI h tk, New own I → vs[i]? = some v → (l, tupOf vs) ∈ own₁ → J i m₁ own₁ → New own₁ I → Tl outer fr₁ fr₂ → Off ((I, oI) :: own₁) outer → Fr h₀ env.locals h (fun y => if y = x then some v else m₁ y) → News h₀ env.locals h ((I, oI) :: (own₁ ++ fr₂)) →
      wpAny (model prog w) A (execs body env) (TurnEndG h₀ env.locals outer fr₁ I oI [(l, tupOf vs)] (J (i + 1)) { s with heap := h, toks := tk } Q) E { s with heap := h, toks := tk })
    (done : ∀ m₁ own₁ fr₂ h tk, J vs.length m₁ own₁ → Tl outer fr₁ fr₂ → Off own₁ outer → Fr h₀ env.locals h m₁ → News h₀ env.locals h (own₁ ++ fr₂) → Q .next { s with heap := h, toks := tk }) :
    wpAny (model prog w) A (pyIter (.ref l)) (fun it s₂ => LoopAtV prog w A h₀ env x body Q E it s₂) E s := by
  unfold Cut at hc
  subst hc
  have hol : s.heap.get? l = some (tupOf vs) := (N _ (List.mem_append_left _ hl)).1
  have ht : s.heap.IsTuple l vs.toArray := ⟨_, hol, rfl, _, rfl⟩
  refine wpAny_pyIter_tuple ht ?_
  have hlt : ∀ p ∈ own ++ fr, p.1 < s.heap.objs.size := fun p hp => Heap.lt_size (N p hp).1
  have W := Walks.tuple (prog := prog) (w := w) hh s.heap.objs.size l (Nat.ne_of_lt (Heap.lt_size hol)) vs.toArray
  have hlen : vs.toArray.size = vs.length := by simp
  rw [hlen] at W
  have nI : New own s.heap.objs.size := fun p hp => Nat.ne_of_lt (hlt p (List.mem_append_left _ hp))
  refine loop_gen (s := { s with heap := s.heap.push _ }) (keep := [(l, tupOf vs)]) W ⟨⟨_, Heap.get?_push_size _ rfl, rfl, rfl⟩, ht.at fun o e => Heap.get?_push_of_some _ e⟩ J (Heap.get?_push_size _ rfl) (fun i h hs => let ⟨⟨o, ho, _⟩, _⟩ := hs; ⟨o, ho⟩) (.head _) (next_is_new F) (fun q => absurd F.ns.lt (q ▸ Nat.lt_irrefl _)) nI (off_new (allLt_of hlt) t) (F.push _) (fun p hp => ⟨Heap.get?_push_of_some _ (N p hp).1, (N p hp).2⟩) t O (fun p hp => by rw [List.mem_singleton.mp hp]; exact hl) (fun b hb => by
      rcases List.mem_cons.mp hb with e | hb
      · exact .inl e
      · exact .inr ⟨_, by rw [List.mem_singleton.mp hb]; exact .head _⟩) hj (fun i v m₁ own₁ fr₂ oI h tk hi hP kk => turn _ i v m₁ own₁ fr₂ oI h tk nI (by simpa using hP) (kk _ (.head _))) fun m₁ own₁ fr₂ h tk kk => done m₁ own₁ fr₂ h tk
end
theorem SetAt.toF {own : Led} {S D Ls I : Addr} {xs : List Value} (h : SetAt own S D Ls xs) (h1 : S ≠ I) (h2 : D ≠ I) (h3 : Ls ≠ I) : SetAt (own.filter fun p => decide (p.1 ≠ I)) S D Ls xs :=
  ⟨List.mem_filter.mpr ⟨h.hS, by simpa using h1⟩, let ⟨a, b, c⟩ := h.hD; ⟨a, b, List.mem_filter.mpr ⟨c, by simpa using h2⟩⟩, let ⟨a, b⟩ := h.hL; ⟨a, List.mem_filter.mpr ⟨b, by simpa using h3⟩⟩, h.th, h.n1, h.n2, h.n3⟩
theorem Kq.toF {own own' : Led} {I : Addr} (h : Kq own own') (n : New own I) : Kq own (own'.filter fun p => decide (p.1 ≠ I)) := fun p hp => List.mem_filter.mpr ⟨h p hp, by simpa using n p hp⟩
theorem Kp.toF {own own' : Led} {I a : Addr} (h : Kp a own own') (n : New own I) : Kp a own (own'.filter fun p => decide (p.1 ≠ I)) := fun p hp q => List.mem_filter.mpr ⟨h p hp q, by simpa using n p hp⟩
end
section
example : True := by w_top off; trivial
/-- one by one into a set -/
def add (xs zs : List Value) : List Value := zs.foldl ins xs
theorem add_take {xs zs : List Value} {i : Nat} {x : Value} (h : zs[i]? = some x) : add xs (zs.take (i + 1)) = ins (add xs (zs.take i)) x := by
  unfold add
  rw [take_snoc h, List.foldl_append]
  rfl
theorem add_length (xs zs : List Value) : (add xs zs).length ≤ xs.length + zs.length := foldl_ins_length zs xs
theorem add_take_length (xs zs : List Value) (i : Nat) : (add xs (zs.take i)).length ≤ xs.length + zs.length := by
  have h1 := add_length xs (zs.take i)
  have h2 : (zs.take i).length ≤ zs.length := by rw [List.length_take]; omega
  omega
theorem add_th {xs zs : List Value} (h : ∀ y ∈ xs, Th y) (k : ∀ y ∈ zs, Th y) : ∀ y ∈ add xs zs, Th y := foldl_ins_th zs xs h k
theorem add_take_th {xs zs : List Value} (i : Nat) (h : ∀ y ∈ xs, Th y) (k : ∀ y ∈ zs, Th y) : ∀ y ∈ add xs (zs.take i), Th y := add_th h fun y hy => k y (List.mem_of_mem_take hy)
theorem c_update {w : World} {own own₀ : Led} {S D Ls : Addr} {xs zs : List Value} {v0 : Value} {e : Value → Bool} (h : SetAt own S D Ls xs) (hO : Oth own₀ v0 e zs) (hq : Kp Ls own₀ own) (hn : New own₀ Ls) (hz : xs.length + zs.length ≤ 1000) :
    Con w 205 374 740 [.ref S, v0] own (fun v own' => v = .none ∧ Kp Ls own own' ∧ ∃ n, (Ls, listOf (add xs zs).toArray n) ∈ own') := by
  obtain ⟨hS, ⟨hsh, tk, hD⟩, ⟨n, hL⟩, hth, hn1, hn2, hn3⟩ := h
  intro prog A E Q s h₀ L m mg mb env outer fr₁ fr p loose mean hA hf hk F X T N t O k
  refine enter (K := Mine.hd.heap_39 w.params) (args := ⟨[.ref S, v0], []⟩) (binds := [("self", .ref S), ("iterable", v0)]) hA hf hk F X T N t O (by k_is) (by k_is) (by decide) (BindsTo.of_eq rfl) (locs rfl) ?_ rfl rfl rfl (by decide)
  intro L' h₁ fr₂ F' N' t' O' bk
  refine PySem.wpAny_noRaise ?_
  try dsimp only
  clear F N t O
  ktr_unf
  (rename Fr h₀ L' _ _ => F1; rename News h₀ L' _ _ => N1)
  refine loop_oth (a := Ls) (fun i m o => ∃ nn u, o = listOf (add xs (zs.take i)).toArray nn ∧ m = kb [("iterable", v0), ("self", .ref S)] u) (Fits.of (by decide) (by decide)) rfl rfl X T F1 N1 Cut.base t' O' hO hq hn hL ⟨n, _, rfl, (kb_self (by exact ⟨rfl, rfl, trivial⟩)).symm⟩ ?_ ?_
  · clear F1 N1
    rintro i x m1 own3 fr4 o2 h tk hx kp ho ⟨nn, u, rfl, rfl⟩ t4 O4 F4 N4
    have hTx : Th x := hO.th _ (List.mem_of_getElem? hx)
    have hths := add_take_th i hth hO.th
    have hlen : (add xs (zs.take i)).length ≤ 1000 := Nat.le_trans (add_take_length xs zs i) hz
    ktr_unf
    (rename Fr h₀ L' _ _ => F5; rename News h₀ L' _ _ => N5; rename Kp Ls own3 _ => kp5; rename (_ ∈ _) => hm5)
    rw [← add_take hx] at hm5
    exact ⟨_, _, _, _, _, _, rfl, F5, N5, by with_reducible assumption, by with_reducible assumption, kp5, hm5, _, _, rfl, (kb_self (by exact ⟨rfl, rfl, trivial⟩)).symm⟩
  · clear F1 N1
    rintro m1 own3 fr4 o2 h tk kp ho ⟨nn, u, rfl, rfl⟩ t4 O4 F4 N4
    rw [List.take_length] at ho
    ktr_unf
    acc_keep
    exact ⟨rfl, kp, _, ho⟩
end
local macro_rules | `(tactic| walk_at "call type:list") => `(tactic| (k_here; (with_reducible show wpAny _ _ (call (Value.type _) [Value.ref _]) _ _ _); refine Hold.of ?_))
local macro_rules | `(tactic| walk_at "setAttr ref") => `(tactic| (k_here; refine Hold.of ?_))
local macro_rules | `(tactic| walk_at "call ref") => `(tactic| (k_here; (with_reducible show wpAny _ _ (call (Value.ref 219) _ _) _ _ _); refine Hold.of ?_))
local macro_rules | `(tactic| walk_at "call ref") => `(tactic| (k_here; (with_reducible show wpAny _ _ (call (Value.ref 289) _ _) _ _ _); refine Hold.of ?_))
local macro_rules | `(tactic| walk_at "call ref") => `(tactic| (k_here; (with_reducible show wpAny _ _ (call (Value.ref 296) _ _) _ _ _); refine Hold.of ?_))
local macro_rules | `(tactic| walk_at "call ref") => `(tactic| (k_here; (with_reducible show wpAny _ _ (call (Value.ref 44) _) _ _ _); (refine' Con.use ?c ?hA ?hf ?hk ?F ?X ?T ?N ?hc ?t ?O (fun v9 h9 tk9 own9 fr9 T9 F9 N9 O9 R9 => ?_)); (case N => k_asm); (case hc => acc_binds); (case c => exact c_len (by acc_peel) (by first | assumption | omega)); (case hA => acc_state); (case hf => rfl); (case hk => rfl); (case F => k_asm); (case X => k_asm); (case T => k_asm); (case t => with_reducible assumption); (case O => acc_keepN); (obtain ⟨e9, tk8, e8⟩ := R9); subst e9; subst e8))
section
example : True := by w_top off; trivial
theorem take_snocL {α : Type} {xs : List α} {i : Nat} {x : α} (h : xs[i]? = some x) : xs.take (i + 1) = xs.take i ++ [x] := by
  rw [List.take_succ, h]; rfl
theorem c_union1 {w : World} {own : Led} {S D Ls : Addr} {xs : List Value} {zss : List (List Value)} {w0 : Value} (h : SetAt own S D Ls xs) (hO : ∀ (i : Nat) (v : Value), [w0][i]? = some v → ∃ e zs, zss[i]? = some zs ∧ Oth own v e zs) (hz : ∀ (i : Nat) (zs : List Value), zss[i]? = some zs → ((zss.take i).foldl add xs).length + zs.length ≤ 1000) (hx : xs.length ≤ 1000) (ht : ∀ (i : Nat), ∀ y ∈ (zss.take i).foldl add xs, Th y) :
    Con w 261 360 600 [.ref S, w0] own (fun v own' => NewSet own own' v ((zss.take [w0].length).foldl add xs)) := by
  obtain ⟨hS, ⟨hsh, tk, hD⟩, ⟨n, hL⟩, hth, hn1, hn2, hn3⟩ := h
  intro prog A E Q s h₀ L m mg mb env outer fr₁ fr p loose mean hA hf hk F X T N t O k
  refine enterV (K := Mine.hd.heap_39 w.params) (args := ⟨[.ref S, w0], []⟩) (nr := "others") (vs := [w0]) (binds := [("self", .ref S)]) hA hf hk F X T N t O (by k_is) (by k_is) (by decide) rfl (by show 1 ≤ 1000; decide) (fun v => locs rfl) ?_ rfl rfl rfl (by decide)
  intro T1 L' h₁ fr₂ F' N' t' O' nT bk
  refine PySem.wpAny_noRaise ?_
  have hT : (T1, tupOf [w0]) ∈ (T1, tupOf [w0]) :: own := .head _
  have kqT : Kq own ((T1, tupOf [w0]) :: own) := Kq.cons
  have N2 : News h₀ L' h₁ (((T1, tupOf [w0]) :: own) ++ fr₂) := N'
  clear N'
  generalize ((T1, tupOf [w0]) :: own) = ownT at hT kqT N2 O'
  try dsimp only
  clear F N t O
  ktr_unf
  unfold Hold
  (rename Fr h₀ L' _ _ => F1; rename News h₀ L' _ _ => N1)
  refine Con.use c_new (Fits.of (by decide) (by decide)) rfl rfl F1 X T N1 Cut.base t' O' ?_
  rintro v1 h2 tk2 own2 fr3 t2 F2 N2 O2 ⟨⟨S1, D1, L1, rfl, ⟨hS1, ⟨hsh1, tk1, hD1⟩, ⟨n1, hL1⟩, hth1, a1, a2, a3⟩, kq, nS, nD, nL⟩⟩
  clear F1 N1
  ktr_unf
  unfold Hold
  (rename Fr h₀ L' _ _ => F1; rename News h₀ L' _ _ => N1)
  refine copy_led F1 N1 Cut.base (by k_mem) hx (fun Ln c9 h9 F9 N9 al => ?_)
  clear F1 N1
  ktr_unf
  unfold Hold
  (rename Fr h₀ L' _ _ => F1; rename News h₀ L' _ _ => N1)
  refine u_set (C := 306) (own := (Ln, listOf xs.toArray c9) :: own2) F1 X N1 Cut.b1 (by k_mem) (by k_mem) t2 (by acc_keepN) (by k_is) (by k_is) (by k_is) (by k_is) (by k_get) (by k_put) (Nat.le_of_ble_eq_true rfl) (fun h5 own5 kp5 hm5 O5 F5 N5 => ?_)
  clear F1 N1
  have nLn2 : New own2 Ln := New.of al Cut.base
  have n9 : Ln ≠ D1 := ne_flip (nLn2 _ hD1)
  have hL5 : (Ln, listOf xs.toArray c9) ∈ own5 := kp5 _ (.head _) n9
  have kown : Kq own own5 := fun p hp => kp5 p (.tail _ (kq p (kqT p hp))) (nD p (kqT p hp))
  have nown : New own Ln := fun p hp => nLn2 p (kq p (kqT p hp))
  have hS5 : (S1, instObj 306 D1) ∈ own5 := kp5 _ (.tail _ hS1) a3
  have hT5 : (T1, tupOf [w0]) ∈ own5 := kp5 _ (.tail _ (kq _ hT)) (nD _ hT)
  have b1 : S1 ≠ Ln := nLn2 _ hS1
  have b2 : D1 ≠ Ln := nLn2 _ hD1
  have b4 : T1 ≠ Ln := nLn2 _ (kq _ hT)
  ktr_unf
  unfold Hold
  (rename Fr h₀ L' _ _ => F1; rename News h₀ L' _ _ => N1)
  refine loop_tup (fun i m own₁ => Kp Ln own5 own₁ ∧ (∃ nn, (Ln, listOf ((zss.take i).foldl add xs).toArray nn) ∈ own₁) ∧ ∃ u, m = kb [("union", .ref S1), ("others", .ref T1), ("self", .ref S)] u) rfl F1 N1 Cut.base t2 O5 hT5 ⟨Kp.refl, ⟨c9, hL5⟩, _, (kb_self (by exact ⟨rfl, rfl, rfl, trivial⟩)).symm⟩ ?_ ?_
  · clear F1 N1
    rintro I i x m1 own3 fr4 oI h tk nI hx' hT3 ⟨kp, ⟨nn, ho⟩, u, rfl⟩ nI3 t4 O4 F4 N4
    obtain ⟨e, zs, hzs, hOx⟩ := hO i x hx'
    have hzi := hz i zs hzs
    have hti := ht i
    have hLnI : Ln ≠ I := nI _ hL5
    generalize hacc : (zss.take i).foldl add xs = ac at ho hzi hti
    ktr_unf
    (rename Fr h₀ L' _ _ => F1; rename News h₀ L' _ _ => N1)
    refine loop_oth (a := Ln) (own := (I, oI) :: own3) (fun j m o => ∃ nn u, o = listOf (add ac (zs.take j)).toArray nn ∧ m = kb [("other", x), ("union", .ref S1), ("others", .ref T1), ("self", .ref S)] u) (Fits.of (by decide) (by decide)) rfl rfl X T F1 N1 Cut.b1 t4 O4 hOx ((kown.then kp).then Kq.cons) nown (.tail _ ho) ⟨nn, _, rfl, (kb_self (by exact ⟨rfl, rfl, rfl, rfl, trivial⟩)).symm⟩ ?_ ?_
    · clear F1 N1
      rintro j y m2 own6 fr6 o2 h6 tk6 hy kp6 ho6 ⟨nn, u, rfl, rfl⟩ t6 O6 F6 N6
      have hTx : Th y := hOx.th _ (List.mem_of_getElem? hy)
      have hths := add_take_th j hti hOx.th
      have hlen : (add ac (zs.take j)).length ≤ 1000 := Nat.le_trans (add_take_length ac zs j) hzi
      have c1 : (S1, instObj 306 D1) ∈ own6 := kp6 _ (.tail _ (kp _ hS5 b1)) b1
      have c2 := kp6 _ (.tail _ (kp _ hm5 b2)) b2
      ktr_unf
      (rename Fr h₀ L' _ _ => F5; rename News h₀ L' _ _ => N5; rename Kp Ln own6 _ => kp7; rename (_ ∈ _) => hm7)
      rw [← add_take hy] at hm7
      exact ⟨_, _, _, _, _, _, rfl, F5, N5, by with_reducible assumption, by with_reducible assumption, kp7, hm7, _, _, rfl, (kb_self (by exact ⟨rfl, rfl, rfl, rfl, trivial⟩)).symm⟩
    · clear F1 N1
      rintro m2 own6 fr6 o2 h6 tk6 kp6 ho6 ⟨nn, u, rfl, rfl⟩ t6 O6 F6 N6
      rw [List.take_length] at ho6
      have e1 : (zss.take (i + 1)).foldl add xs = add ac zs := by rw [take_snocL hzs, List.foldl_append, hacc]; rfl
      rw [← e1] at ho6
      ktr_unf
      exact ⟨_, _, _, own6, _, rfl, F6, N6, t6, O6, kp6 _ (.head _) (ne_flip hLnI), fun p hp => by rw [List.mem_singleton.mp hp]; exact kp6 _ (.tail _ hT3) b4, ((kp.then Kq.cons).trans kp6).toF nI, ⟨_, List.mem_filter.mpr ⟨ho6, by simpa using hLnI⟩⟩, _, (kb_self (by exact ⟨rfl, rfl, rfl, trivial⟩)).symm⟩
  · clear F1 N1
    rintro m1 own3 fr4 h tk ⟨kp, ⟨nn, ho⟩, u, rfl⟩ t4 O4 F4 N4
    ktr_unf
    acc_keep
    exact ⟨S1, D1, Ln, rfl, ⟨kp _ hS5 b1, ⟨_, _, kp _ hm5 b2⟩, ⟨_, ho⟩, ht _, b1, b2, a3⟩, fun p hp => kp p (kown p hp) (nown p hp), nS.below kqT, nD.below kqT, nown⟩
end
section
example : True := by w_top off; trivial
section
variable {prog : Program} {w : World} {A : Around} {E : Value → Shared → Prop} {s : Shared} {K : Frag} {x C L f : Addr} {h₀ : Heap} {m mg mb : Str → Option Value} {ox : Obj} {od : Option Obj} {own fr₁ fr news : Led} {env : Env} {outer : List Env} {p : Program} {loose : List Str} {mean : ExcName → Option Value} {S D Ls : Addr} {xs : List Value}
theorem truthy_lenK {Q : Bool → Shared → Prop} (F : Fr h₀ L s.heap m) (X₀ : K.In h₀) (I : InstAt s.heap x ox C od) (hb : findIn K (.ref C) "__bool__" = some none) (hs : findIn K (.ref C) "__len__" = some (some (.ref f))) (hf : isFn K (.ref f) = true)
    (h : wpAny (model prog w) A.in1 (call (.ref f) [.ref x]) (fun v s' => ∃ n t, v = .int n t ∧ 0 ≤ n ∧ n < 2 ^ 63 ∧ Q (n != 0) { s' with toks := s'.toks + 1 }) E s) : wpAny (model prog w) A (truthy (.ref x)) Q E s := by
  have X := X₀.keeps F.keep
  have key : wpAny (model prog w) A (runValue (.builtin "len" ⟨[.ref x], []⟩)) (fun r s' => ∃ n t, r = .int n t ∧ Q (n != 0) s') E s := by
    refine wpAny_runValue (codeAny_builtin entry_len ?_)
    rw [Around.under_plainId plain_len _]
    unfold Builtin.«len»
    refine wpAny_bind (m := oneArg "len" _) (wpAny_pure ?_)
    refine wpAny_bind (m := callSpecial? (.ref x) (Str.ofString "__len__")) (special_fn X I hs (beq_iff_eq.mp hf) (wpAny_mono h (fun r s' hr => ?_) fun _ _ y => y))
    obtain ⟨n, t, rfl, h0, h1, hq⟩ := hr
    refine wpAny_bind (wpAny_holding (wpAny_pure ?_))
    refine wpAny_bind (wpAny_letGo ?_)
    show wpAny _ _ (if n < 0 then _ else _) _ _ _
    rw [if_neg (by omega)]
    show wpAny _ _ (if n ≥ 2 ^ 63 then _ else _) _ _ _
    rw [if_neg (by omega)]
    exact wpAny_bind (wpAny_mkInt (wpAny_pure ⟨_, _, rfl, hq⟩))
  unfold truthy
  refine wpAny_bind (m := callSpecial? (.ref x) (Str.ofString "__bool__")) (wpAny_bind (wpAny_bind (I.type.here ((looks_findIn X hb).here (wpAny_pure ?_)))))
  refine wpAny_bind (wpAny_bind (I.type.here ((looks_findIn X hs).here ?_)))
  exact wpAny_bind (wpAny_mono key (fun r s' h' => by obtain ⟨n, t, rfl, hq⟩ := h'; exact wpAny_pure hq) fun _ _ e => e)
theorem truthy_set {Q : Bool → Shared → Prop} (hA : Fits A 379 790 (env :: outer)) (hf : env.frame = some L) (hk : env.scope.kind = .function) (F : Fr h₀ L s.heap m) (X : (Mine.hd.heap_39 w.params).In h₀) (T : Top p loose mean mg mb h₀) (N : News h₀ L s.heap news) (hc : Cut news own fr) (t : Tl outer fr₁ fr) (O : Off own outer)
    (h : SetAt own S D Ls xs) (hz : xs.length ≤ 1000) (k : ∀ h' tk' fr', Tl outer fr₁ fr' → Fr h₀ L h' m → News h₀ L h' (own ++ fr') → Q (!xs.isEmpty) { s with heap := h', toks := tk' }) : wpAny (model prog w) A (truthy (.ref S)) Q E s := by
  unfold Cut at hc
  subst hc
  obtain ⟨hsh, tk, hD⟩ := h.hD
  refine truthy_lenK (C := 306) (f := 44) F X (InstAt.of_news N (List.mem_append_left _ h.hS) (List.mem_append_left _ hD)) (by k_is) (by k_is) (by k_is) ?_
  have hA' : Fits A.in1 380 800 (env :: outer) := ⟨hA.handled, Nat.le_trans hA.depth (by decide), hA.frames, hA.guards, Nat.le_trans (Nat.succ_le_succ hA.units) (by decide)⟩
  refine Con.use (c_len h hz) hA' hf hk F X T N Cut.base t O ?_
  rintro v' h' tk' own' fr' t' F' N' O' ⟨rfl, tk2, rfl⟩
  refine ⟨_, _, rfl, by omega, by omega, ?_⟩
  have e : ((xs.length : Int) != 0) = !xs.isEmpty := by
    cases xs with
    | nil => rfl
    | cons a l => rw [bne_iff_ne.mpr (by rw [List.length_cons]; omega)]; rfl
  rw [e]
  exact k _ _ _ t' F' N'
end
theorem lenBack {Q : Value → Shared → Prop} {n : Int} {t : Tok} {s' : Shared} (a : 0 ≤ n) (b : n < 2 ^ 63) (h : Q (.int n s'.toks) { s' with toks := s'.toks + 1 }) : PySem.W.LenBack Q (.int n t) s' := ⟨⟨a, b⟩, h⟩
theorem truthy_led {prog : Program} {w : World} {A : Around} {E : Value → Shared → Prop} {s : Shared} {h₀ : Heap} {L l : Addr} {news own fr : Led} {xs : List Value} {n : Nat} {Q : Bool → Shared → Prop} (N : News h₀ L s.heap news) (hc : Cut news own fr) (hl : (l, listOf xs.toArray n) ∈ own) (hz : xs.length ≤ 1000)
    (h : Q (!xs.isEmpty) { s with toks := s.toks + 1 + 1 }) : wpAny (model prog w) A (truthy (.ref l)) Q E s := by
  refine wpAny_truthy_list (items := xs.toArray) ⟨_, (N _ (hc.mem hl)).1, rfl, n, rfl⟩ (by rw [List.size_toArray]; omega) ?_
  simpa using h
end
local macro_rules | `(tactic| walk_at "truthy ref") => `(tactic| (k_here; (with_reducible show wpAny _ _ (truthy (Value.ref _)) _ _ _); (refine' truthy_set ?hA ?hf ?hk ?F ?X ?T ?N ?hc ?t ?O ?h ?z (fun h9 tk9 fr9 T9 F9 N9 => ?_)); (case N => k_asm); (case hc => acc_binds); (case h => acc_peel); (case z => first | assumption | omega); (case hA => acc_state); (case hf => rfl); (case hk => rfl); (case F => k_asm); (case X => k_asm); (case T => k_asm); (case t => with_reducible assumption); (case O => acc_keepN)))
local macro_rules | `(tactic| walk_at "truthy ref") => `(tactic| (k_here; (with_reducible show wpAny _ _ (truthy (Value.ref _)) _ _ _); (refine' truthy_led ?N ?c ?p ?z ?_); (case N => k_asm); (case c => acc_binds); (case p => k_mem); (case z => first | assumption | omega)))
section
example : True := by w_top off; trivial
theorem c_union2 {w : World} {own : Led} {S D Ls : Addr} {xs : List Value} {zss : List (List Value)} {w0 w1 : Value} (h : SetAt own S D Ls xs) (hO : ∀ (i : Nat) (v : Value), [w0, w1][i]? = some v → ∃ e zs, zss[i]? = some zs ∧ Oth own v e zs) (hz : ∀ (i : Nat) (zs : List Value), zss[i]? = some zs → ((zss.take i).foldl add xs).length + zs.length ≤ 1000) (hx : xs.length ≤ 1000) (ht : ∀ (i : Nat), ∀ y ∈ (zss.take i).foldl add xs, Th y) :
    Con w 261 360 600 [.ref S, w0, w1] own (fun v own' => NewSet own own' v ((zss.take [w0, w1].length).foldl add xs)) := by
  obtain ⟨hS, ⟨hsh, tk, hD⟩, ⟨n, hL⟩, hth, hn1, hn2, hn3⟩ := h
  intro prog A E Q s h₀ L m mg mb env outer fr₁ fr p loose mean hA hf hk F X T N t O k
  refine enterV (K := Mine.hd.heap_39 w.params) (args := ⟨[.ref S, w0, w1], []⟩) (nr := "others") (vs := [w0, w1]) (binds := [("self", .ref S)]) hA hf hk F X T N t O (by k_is) (by k_is) (by decide) rfl (by show 2 ≤ 1000; decide) (fun v => locs rfl) ?_ rfl rfl rfl (by decide)
  intro T1 L' h₁ fr₂ F' N' t' O' nT bk
  refine PySem.wpAny_noRaise ?_
  have hT : (T1, tupOf [w0, w1]) ∈ (T1, tupOf [w0, w1]) :: own := .head _
  have kqT : Kq own ((T1, tupOf [w0, w1]) :: own) := Kq.cons
  have N2 : News h₀ L' h₁ (((T1, tupOf [w0, w1]) :: own) ++ fr₂) := N'
  clear N'
  generalize ((T1, tupOf [w0, w1]) :: own) = ownT at hT kqT N2 O'
  try dsimp only
  clear F N t O
  ktr_unf
  unfold Hold
  (rename Fr h₀ L' _ _ => F1; rename News h₀ L' _ _ => N1)
  refine Con.use c_new (Fits.of (by decide) (by decide)) rfl rfl F1 X T N1 Cut.base t' O' ?_
  rintro v1 h2 tk2 own2 fr3 t2 F2 N2 O2 ⟨⟨S1, D1, L1, rfl, ⟨hS1, ⟨hsh1, tk1, hD1⟩, ⟨n1, hL1⟩, hth1, a1, a2, a3⟩, kq, nS, nD, nL⟩⟩
  clear F1 N1
  ktr_unf
  unfold Hold
  (rename Fr h₀ L' _ _ => F1; rename News h₀ L' _ _ => N1)
  refine copy_led F1 N1 Cut.base (by k_mem) hx (fun Ln c9 h9 F9 N9 al => ?_)
  clear F1 N1
  ktr_unf
  unfold Hold
  (rename Fr h₀ L' _ _ => F1; rename News h₀ L' _ _ => N1)
  refine u_set (C := 306) (own := (Ln, listOf xs.toArray c9) :: own2) F1 X N1 Cut.b1 (by k_mem) (by k_mem) t2 (by acc_keepN) (by k_is) (by k_is) (by k_is) (by k_is) (by k_get) (by k_put) (Nat.le_of_ble_eq_true rfl) (fun h5 own5 kp5 hm5 O5 F5 N5 => ?_)
  clear F1 N1
  have nLn2 : New own2 Ln := New.of al Cut.base
  have n9 : Ln ≠ D1 := ne_flip (nLn2 _ hD1)
  have hL5 : (Ln, listOf xs.toArray c9) ∈ own5 := kp5 _ (.head _) n9
  have kown : Kq own own5 := fun p hp => kp5 p (.tail _ (kq p (kqT p hp))) (nD p (kqT p hp))
  have nown : New own Ln := fun p hp => nLn2 p (kq p (kqT p hp))
  have hS5 : (S1, instObj 306 D1) ∈ own5 := kp5 _ (.tail _ hS1) a3
  have hT5 : (T1, tupOf [w0, w1]) ∈ own5 := kp5 _ (.tail _ (kq _ hT)) (nD _ hT)
  have b1 : S1 ≠ Ln := nLn2 _ hS1
  have b2 : D1 ≠ Ln := nLn2 _ hD1
  have b4 : T1 ≠ Ln := nLn2 _ (kq _ hT)
  ktr_unf
  unfold Hold
  (rename Fr h₀ L' _ _ => F1; rename News h₀ L' _ _ => N1)
  refine loop_tup (fun i m own₁ => Kp Ln own5 own₁ ∧ (∃ nn, (Ln, listOf ((zss.take i).foldl add xs).toArray nn) ∈ own₁) ∧ ∃ u, m = kb [("union", .ref S1), ("others", .ref T1), ("self", .ref S)] u) rfl F1 N1 Cut.base t2 O5 hT5 ⟨Kp.refl, ⟨c9, hL5⟩, _, (kb_self (by exact ⟨rfl, rfl, rfl, trivial⟩)).symm⟩ ?_ ?_
  · clear F1 N1
    rintro I i x m1 own3 fr4 oI h tk nI hx' hT3 ⟨kp, ⟨nn, ho⟩, u, rfl⟩ nI3 t4 O4 F4 N4
    obtain ⟨e, zs, hzs, hOx⟩ := hO i x hx'
    have hzi := hz i zs hzs
    have hti := ht i
    have hLnI : Ln ≠ I := nI _ hL5
    generalize hacc : (zss.take i).foldl add xs = ac at ho hzi hti
    ktr_unf
    (rename Fr h₀ L' _ _ => F1; rename News h₀ L' _ _ => N1)
    refine loop_oth (a := Ln) (own := (I, oI) :: own3) (fun j m o => ∃ nn u, o = listOf (add ac (zs.take j)).toArray nn ∧ m = kb [("other", x), ("union", .ref S1), ("others", .ref T1), ("self", .ref S)] u) (Fits.of (by decide) (by decide)) rfl rfl X T F1 N1 Cut.b1 t4 O4 hOx ((kown.then kp).then Kq.cons) nown (.tail _ ho) ⟨nn, _, rfl, (kb_self (by exact ⟨rfl, rfl, rfl, rfl, trivial⟩)).symm⟩ ?_ ?_
    · clear F1 N1
      rintro j y m2 own6 fr6 o2 h6 tk6 hy kp6 ho6 ⟨nn, u, rfl, rfl⟩ t6 O6 F6 N6
      have hTx : Th y := hOx.th _ (List.mem_of_getElem? hy)
      have hths := add_take_th j hti hOx.th
      have hlen : (add ac (zs.take j)).length ≤ 1000 := Nat.le_trans (add_take_length ac zs j) hzi
      have c1 : (S1, instObj 306 D1) ∈ own6 := kp6 _ (.tail _ (kp _ hS5 b1)) b1
      have c2 := kp6 _ (.tail _ (kp _ hm5 b2)) b2
      ktr_unf
      (rename Fr h₀ L' _ _ => F5; rename News h₀ L' _ _ => N5; rename Kp Ln own6 _ => kp7; rename (_ ∈ _) => hm7)
      rw [← add_take hy] at hm7
      exact ⟨_, _, _, _, _, _, rfl, F5, N5, by with_reducible assumption, by with_reducible assumption, kp7, hm7, _, _, rfl, (kb_self (by exact ⟨rfl, rfl, rfl, rfl, trivial⟩)).symm⟩
    · clear F1 N1
      rintro m2 own6 fr6 o2 h6 tk6 kp6 ho6 ⟨nn, u, rfl, rfl⟩ t6 O6 F6 N6
      rw [List.take_length] at ho6
      have e1 : (zss.take (i + 1)).foldl add xs = add ac zs := by rw [take_snocL hzs, List.foldl_append, hacc]; rfl
      rw [← e1] at ho6
      ktr_unf
      exact ⟨_, _, _, own6, _, rfl, F6, N6, t6, O6, kp6 _ (.head _) (ne_flip hLnI), fun p hp => by rw [List.mem_singleton.mp hp]; exact kp6 _ (.tail _ hT3) b4, ((kp.then Kq.cons).trans kp6).toF nI, ⟨_, List.mem_filter.mpr ⟨ho6, by simpa using hLnI⟩⟩, _, (kb_self (by exact ⟨rfl, rfl, rfl, trivial⟩)).symm⟩
  · clear F1 N1
    rintro m1 own3 fr4 h tk ⟨kp, ⟨nn, ho⟩, u, rfl⟩ t4 O4 F4 N4
    ktr_unf
    acc_keep
    exact ⟨S1, D1, Ln, rfl, ⟨kp _ hS5 b1, ⟨_, _, kp _ hm5 b2⟩, ⟨_, ho⟩, ht _, b1, b2, a3⟩, fun p hp => kp p (kown p hp) (nown p hp), nS.below kqT, nD.below kqT, nown⟩
def sels (es : List (Value → Bool)) (xs : List Value) (i : Nat) : List Value := (es.take i).foldl (fun a e => mk (a.filter e)) xs
theorem sels_succ {es : List (Value → Bool)} {xs : List Value} {i : Nat} {e : Value → Bool} (h : es[i]? = some e) : sels es xs (i + 1) = mk ((sels es xs i).filter e) := by
  unfold sels
  rw [take_snocL h, List.foldl_append]
  rfl
theorem sels_fl : ∀ (es : List (Value → Bool)) (xs : List Value), (es.foldl (fun a e => mk (a.filter e)) xs).length ≤ xs.length
  | [], _ => Nat.le_refl _
  | e :: es, xs => Nat.le_trans (sels_fl es _) (Nat.le_trans (mk_length _) (List.length_filter_le _ _))
theorem sels_length (es : List (Value → Bool)) (xs : List Value) (i : Nat) : (sels es xs i).length ≤ xs.length := sels_fl _ _
theorem sels_nil : ∀ (es : List (Value → Bool)), es.foldl (fun a e => mk (a.filter e)) [] = []
  | [] => rfl
  | _ :: es => sels_nil es
theorem sels_stop {es : List (Value → Bool)} {xs : List Value} {i j : Nat} (h : sels es xs i = []) (hj : i ≤ j) : sels es xs j = [] := by
  obtain ⟨k, rfl⟩ := Nat.le.dest hj
  unfold sels at *
  rw [List.take_add, List.foldl_append, h]
  exact sels_nil _
def dels (es : List (Value → Bool)) (xs : List Value) (i : Nat) : List Value := (es.take i).foldl (fun a e => mk (a.filter (fun x => !e x))) xs
theorem dels_succ {es : List (Value → Bool)} {xs : List Value} {i : Nat} {e : Value → Bool} (h : es[i]? = some e) : dels es xs (i + 1) = mk ((dels es xs i).filter (fun x => !e x)) := by
  unfold dels
  rw [take_snocL h, List.foldl_append]
  rfl
theorem dels_fl : ∀ (es : List (Value → Bool)) (xs : List Value), (es.foldl (fun a e => mk (a.filter (fun x => !e x))) xs).length ≤ xs.length
  | [], _ => Nat.le_refl _
  | e :: es, xs => Nat.le_trans (dels_fl es _) (Nat.le_trans (mk_length _) (List.length_filter_le _ _))
theorem dels_length (es : List (Value → Bool)) (xs : List Value) (i : Nat) : (dels es xs i).length ≤ xs.length := dels_fl _ _
theorem dels_nil : ∀ (es : List (Value → Bool)), es.foldl (fun a e => mk (a.filter (fun x => !e x))) [] = []
  | [] => rfl
  | _ :: es => dels_nil es
theorem dels_stop {es : List (Value → Bool)} {xs : List Value} {i j : Nat} (h : dels es xs i = []) (hj : i ≤ j) : dels es xs j = [] := by
  obtain ⟨k, rfl⟩ := Nat.le.dest hj
  unfold dels at *
  rw [List.take_add, List.foldl_append, h]
  exact dels_nil _
theorem c_intersection2 {w : World} {own : Led} {S D Ls : Addr} {xs : List Value} {es : List (Value → Bool)} {w0 w1 : Value} (h : SetAt own S D Ls xs) (hO : ∀ (i : Nat) (v : Value), [w0, w1][i]? = some v → ∃ e zs, es[i]? = some e ∧ Oth own v e zs) (hx : xs.length ≤ 1000) :
    Con w 268 360 600 [.ref S, w0, w1] own (fun v own' => NewSet own own' v (sels es xs [w0, w1].length)) := by
  obtain ⟨hS, ⟨hsh, tk, hD⟩, ⟨n, hL⟩, hth, hn1, hn2, hn3⟩ := h
  intro prog A E Q s h₀ L m mg mb env outer fr₁ fr p loose mean hA hf hk F X T N t O k
  refine enterV (K := Mine.hd.heap_39 w.params) (args := ⟨[.ref S, w0, w1], []⟩) (nr := "others") (vs := [w0, w1]) (binds := [("self", .ref S)]) hA hf hk F X T N t O (by k_is) (by k_is) (by decide) rfl (by show 2 ≤ 1000; decide) (fun v => locs rfl) ?_ rfl rfl rfl (by decide)
  intro T1 L' h₁ fr₂ F' N' t' O' nT bk
  refine PySem.wpAny_noRaise ?_
  have hT : (T1, tupOf [w0, w1]) ∈ (T1, tupOf [w0, w1]) :: own := .head _
  have kqT : Kq own ((T1, tupOf [w0, w1]) :: own) := Kq.cons
  have N2 : News h₀ L' h₁ (((T1, tupOf [w0, w1]) :: own) ++ fr₂) := N'
  clear N'
  generalize ((T1, tupOf [w0, w1]) :: own) = ownT at hT kqT N2 O'
  try dsimp only
  clear F N t O
  ktr_unf
  unfold Hold
  (rename Fr h₀ L' _ _ => F1; rename News h₀ L' _ _ => N1)
  have hST : SetAt ownT S D Ls xs := ⟨kqT _ hS, ⟨_, _, kqT _ hD⟩, ⟨_, kqT _ hL⟩, hth, hn1, hn2, hn3⟩
  refine Con.use (c_copy hST hx) (Fits.of (by decide) (by decide)) rfl rfl F1 X T N1 Cut.base t' O' ?_
  rintro v1 h2 tk2 own2 fr3 t2 F2 N2 O2 ⟨⟨S1, D1, L1, rfl, hset1, kq, nS, nD, nL⟩⟩
  clear F1 N1
  ktr_unf
  unfold Hold
  (rename Fr h₀ L' _ _ => F1; rename News h₀ L' _ _ => N1)
  have e0 : sels es xs 0 = xs := rfl
  refine loop_tup (fun i m own₁ => Kq ownT own₁ ∧ ∃ S' D' L' u, SetAt own₁ S' D' L' (sels es xs i) ∧ New ownT S' ∧ New ownT D' ∧ New ownT L' ∧ m = kb [("isect", .ref S'), ("others", .ref T1), ("self", .ref S)] u) rfl F1 N1 Cut.base t2 O2 (kq _ hT) ⟨kq, S1, D1, L1, _, hset1, nS, nD, nL, (kb_self (by exact ⟨rfl, rfl, rfl, trivial⟩)).symm⟩ ?_ ?_
  · clear F1 N1
    rintro I i x m1 own3 fr4 oI h tk nI hx' hT3 ⟨kT, S2, D2, L2, u, hset2, nS2, nD2, nL2, rfl⟩ nI3 t4 O4 F4 N4
    obtain ⟨e, zs, hes, hOx⟩ := hO i x hx'
    have hOx3 : Oth ((I, oI) :: own3) x e zs := (hOx.toQ (kqT.trans kT)).toQ Kq.cons
    have hset3 : SetAt ((I, oI) :: own3) S2 D2 L2 (sels es xs i) := hset2.toQ Kq.cons
    have hln : (sels es xs i).length ≤ 1000 := Nat.le_trans (sels_length es xs i) hx
    have kT3 : Kq ownT ((I, oI) :: own3) := kT.trans Kq.cons
    have hI3 : (I, oI) ∈ (I, oI) :: own3 := .head _
    have hT4 : (T1, tupOf [w0, w1]) ∈ (I, oI) :: own3 := .tail _ hT3
    have N5 : News h₀ L' h (((I, oI) :: own3) ++ fr4) := N4
    clear N4 hset2 hT3
    generalize (I, oI) :: own3 = ow at hOx3 hset3 kT3 hI3 hT4 N5 O4
    obtain ⟨hS2, ⟨hsh2, tk2', hD2⟩, ⟨n2, hL2⟩, -, -, -, -⟩ := id hset3
    have e1 := sels_succ (xs := xs) hes
    ktr_unf
    unfold Hold
    (rename Fr h₀ L' _ _ => F1; rename News h₀ L' _ _ => N1)
    refine Con.use (c_intersect hset3 hOx3 hln) (Fits.of (by decide) (by decide)) rfl rfl F1 X T N1 Cut.base t4 O4 ?_
    rintro v9 h9 tk9 own9 fr9 t9 F9 N9 O9 ⟨⟨S4, D4, L4, rfl, ⟨hS4, ⟨hsh4, tk4, hD4⟩, ⟨n4, hL4⟩, hth4, d1, d2, d3⟩, kq4, nS4, nD4, nL4⟩⟩
    clear F1 N1
    rw [← e1] at hL4 hth4
    have hln4 : (sels es xs (i + 1)).length ≤ 1000 := Nat.le_trans (sels_length es xs (i + 1)) hx
    have hset4 : SetAt own9 S4 D4 L4 (sels es xs (i + 1)) := ⟨hS4, ⟨_, _, hD4⟩, ⟨_, hL4⟩, hth4, d1, d2, d3⟩
    have kT9 : Kq ownT own9 := kT3.trans kq4
    have nS5 : New ownT S4 := nS4.below kT3
    have nD5 : New ownT D4 := nD4.below kT3
    have nL5 : New ownT L4 := nL4.below kT3
    ktr_unf
    · rename (List.isEmpty _ = true) => hb
      have hn : sels es xs (i + 1) = [] := List.isEmpty_iff.mp hb
      have hi : i + 1 ≤ [w0, w1].length := (List.getElem?_eq_some_iff.mp hx').1
      have hm := sels_stop hn hi
      rw [hn, ← hm] at hset4
      dsimp only [TurnEndG]
      ktr_unf
      acc_keep
      exact ⟨S4, D4, L4, rfl, hset4, kqT.trans kT9, nS5.below kqT, nD5.below kqT, nL5.below kqT⟩
    · (rename Fr h₀ L' _ _ => F1; rename News h₀ L' _ _ => N1)
      exact ⟨_, _, _, own9, _, rfl, F1, N1, by with_reducible assumption, O9, kq4 _ hI3, fun p hp => by rw [List.mem_singleton.mp hp]; exact kq4 _ hT4, kT9.toF (nI.below kq), S4, D4, L4, _, hset4.toF (ne_flip (nS4 _ hI3)) (ne_flip (nD4 _ hI3)) (ne_flip (nL4 _ hI3)), nS5, nD5, nL5, (kb_self (by exact ⟨rfl, rfl, rfl, trivial⟩)).symm⟩
  · clear F1 N1
    rintro m1 own3 fr4 h tk ⟨kT, S2, D2, L2, u, hset2, nS2, nD2, nL2, rfl⟩ t4 O4 F4 N4
    ktr_unf
    acc_keep
    exact ⟨S2, D2, L2, rfl, hset2, kqT.trans kT, nS2.below kqT, nD2.below kqT, nL2.below kqT⟩
theorem c_difference1 {w : World} {own : Led} {S D Ls : Addr} {xs : List Value} {es : List (Value → Bool)} {w0 : Value} (h : SetAt own S D Ls xs) (hO : ∀ (i : Nat) (v : Value), [w0][i]? = some v → ∃ e zs, es[i]? = some e ∧ Oth own v e zs) (hx : xs.length ≤ 1000) :
    Con w 275 360 600 [.ref S, w0] own (fun v own' => NewSet own own' v (dels es xs [w0].length)) := by
  obtain ⟨hS, ⟨hsh, tk, hD⟩, ⟨n, hL⟩, hth, hn1, hn2, hn3⟩ := h
  intro prog A E Q s h₀ L m mg mb env outer fr₁ fr p loose mean hA hf hk F X T N t O k
  refine enterV (K := Mine.hd.heap_39 w.params) (args := ⟨[.ref S, w0], []⟩) (nr := "others") (vs := [w0]) (binds := [("self", .ref S)]) hA hf hk F X T N t O (by k_is) (by k_is) (by decide) rfl (by show 1 ≤ 1000; decide) (fun v => locs rfl) ?_ rfl rfl rfl (by decide)
  intro T1 L' h₁ fr₂ F' N' t' O' nT bk
  refine PySem.wpAny_noRaise ?_
  have hT : (T1, tupOf [w0]) ∈ (T1, tupOf [w0]) :: own := .head _
  have kqT : Kq own ((T1, tupOf [w0]) :: own) := Kq.cons
  have N2 : News h₀ L' h₁ (((T1, tupOf [w0]) :: own) ++ fr₂) := N'
  clear N'
  generalize ((T1, tupOf [w0]) :: own) = ownT at hT kqT N2 O'
  try dsimp only
  clear F N t O
  ktr_unf
  unfold Hold
  (rename Fr h₀ L' _ _ => F1; rename News h₀ L' _ _ => N1)
  have hST : SetAt ownT S D Ls xs := ⟨kqT _ hS, ⟨_, _, kqT _ hD⟩, ⟨_, kqT _ hL⟩, hth, hn1, hn2, hn3⟩
  refine Con.use (c_copy hST hx) (Fits.of (by decide) (by decide)) rfl rfl F1 X T N1 Cut.base t' O' ?_
  rintro v1 h2 tk2 own2 fr3 t2 F2 N2 O2 ⟨⟨S1, D1, L1, rfl, hset1, kq, nS, nD, nL⟩⟩
  clear F1 N1
  ktr_unf
  unfold Hold
  (rename Fr h₀ L' _ _ => F1; rename News h₀ L' _ _ => N1)
  have e0 : dels es xs 0 = xs := rfl
  refine loop_tup (fun i m own₁ => Kq ownT own₁ ∧ ∃ S' D' L' u, SetAt own₁ S' D' L' (dels es xs i) ∧ New ownT S' ∧ New ownT D' ∧ New ownT L' ∧ m = kb [("diff", .ref S'), ("others", .ref T1), ("self", .ref S)] u) rfl F1 N1 Cut.base t2 O2 (kq _ hT) ⟨kq, S1, D1, L1, _, hset1, nS, nD, nL, (kb_self (by exact ⟨rfl, rfl, rfl, trivial⟩)).symm⟩ ?_ ?_
  · clear F1 N1
    rintro I i x m1 own3 fr4 oI h tk nI hx' hT3 ⟨kT, S2, D2, L2, u, hset2, nS2, nD2, nL2, rfl⟩ nI3 t4 O4 F4 N4
    obtain ⟨e, zs, hes, hOx⟩ := hO i x hx'
    have hOx3 : Oth ((I, oI) :: own3) x e zs := (hOx.toQ (kqT.trans kT)).toQ Kq.cons
    have hset3 : SetAt ((I, oI) :: own3) S2 D2 L2 (dels es xs i) := hset2.toQ Kq.cons
    have hln : (dels es xs i).length ≤ 1000 := Nat.le_trans (dels_length es xs i) hx
    have kT3 : Kq ownT ((I, oI) :: own3) := kT.trans Kq.cons
    have hI3 : (I, oI) ∈ (I, oI) :: own3 := .head _
    have hT4 : (T1, tupOf [w0]) ∈ (I, oI) :: own3 := .tail _ hT3
    have N5 : News h₀ L' h (((I, oI) :: own3) ++ fr4) := N4
    clear N4 hset2 hT3
    generalize (I, oI) :: own3 = ow at hOx3 hset3 kT3 hI3 hT4 N5 O4
    obtain ⟨hS2, ⟨hsh2, tk2', hD2⟩, ⟨n2, hL2⟩, -, -, -, -⟩ := id hset3
    have e1 := dels_succ (xs := xs) hes
    ktr_unf
    unfold Hold
    (rename Fr h₀ L' _ _ => F1; rename News h₀ L' _ _ => N1)
    refine Con.use (c_diff hset3 hOx3 hln) (Fits.of (by decide) (by decide)) rfl rfl F1 X T N1 Cut.base t4 O4 ?_
    rintro v9 h9 tk9 own9 fr9 t9 F9 N9 O9 ⟨⟨S4, D4, L4, rfl, ⟨hS4, ⟨hsh4, tk4, hD4⟩, ⟨n4, hL4⟩, hth4, d1, d2, d3⟩, kq4, nS4, nD4, nL4⟩⟩
    clear F1 N1
    rw [← e1] at hL4 hth4
    have hln4 : (dels es xs (i + 1)).length ≤ 1000 := Nat.le_trans (dels_length es xs (i + 1)) hx
    have hset4 : SetAt own9 S4 D4 L4 (dels es xs (i + 1)) := ⟨hS4, ⟨_, _, hD4⟩, ⟨_, hL4⟩, hth4, d1, d2, d3⟩
    have kT9 : Kq ownT own9 := kT3.trans kq4
    have nS5 : New ownT S4 := nS4.below kT3
    have nD5 : New ownT D4 := nD4.below kT3
    have nL5 : New ownT L4 := nL4.below kT3
    ktr_unf
    · rename (List.isEmpty _ = true) => hb
      have hn : dels es xs (i + 1) = [] := List.isEmpty_iff.mp hb
      have hi : i + 1 ≤ [w0].length := (List.getElem?_eq_some_iff.mp hx').1
      have hm := dels_stop hn hi
      rw [hn, ← hm] at hset4
      dsimp only [TurnEndG]
      ktr_unf
      acc_keep
      exact ⟨S4, D4, L4, rfl, hset4, kqT.trans kT9, nS5.below kqT, nD5.below kqT, nL5.below kqT⟩
    · (rename Fr h₀ L' _ _ => F1; rename News h₀ L' _ _ => N1)
      exact ⟨_, _, _, own9, _, rfl, F1, N1, by with_reducible assumption, O9, kq4 _ hI3, fun p hp => by rw [List.mem_singleton.mp hp]; exact kq4 _ hT4, kT9.toF (nI.below kq), S4, D4, L4, _, hset4.toF (ne_flip (nS4 _ hI3)) (ne_flip (nD4 _ hI3)) (ne_flip (nL4 _ hI3)), nS5, nD5, nL5, (kb_self (by exact ⟨rfl, rfl, rfl, trivial⟩)).symm⟩
  · clear F1 N1
    rintro m1 own3 fr4 h tk ⟨kT, S2, D2, L2, u, hset2, nS2, nD2, nL2, rfl⟩ t4 O4 F4 N4
    ktr_unf
    acc_keep
    exact ⟨S2, D2, L2, rfl, hset2, kqT.trans kT, nS2.below kqT, nD2.below kqT, nL2.below kqT⟩
theorem c_difference2 {w : World} {own : Led} {S D Ls : Addr} {xs : List Value} {es : List (Value → Bool)} {w0 w1 : Value} (h : SetAt own S D Ls xs) (hO : ∀ (i : Nat) (v : Value), [w0, w1][i]? = some v → ∃ e zs, es[i]? = some e ∧ Oth own v e zs) (hx : xs.length ≤ 1000) :
    Con w 275 360 600 [.ref S, w0, w1] own (fun v own' => NewSet own own' v (dels es xs [w0, w1].length)) := by
  obtain ⟨hS, ⟨hsh, tk, hD⟩, ⟨n, hL⟩, hth, hn1, hn2, hn3⟩ := h
  intro prog A E Q s h₀ L m mg mb env outer fr₁ fr p loose mean hA hf hk F X T N t O k
  refine enterV (K := Mine.hd.heap_39 w.params) (args := ⟨[.ref S, w0, w1], []⟩) (nr := "others") (vs := [w0, w1]) (binds := [("self", .ref S)]) hA hf hk F X T N t O (by k_is) (by k_is) (by decide) rfl (by show 2 ≤ 1000; decide) (fun v => locs rfl) ?_ rfl rfl rfl (by decide)
  intro T1 L' h₁ fr₂ F' N' t' O' nT bk
  refine PySem.wpAny_noRaise ?_
  have hT : (T1, tupOf [w0, w1]) ∈ (T1, tupOf [w0, w1]) :: own := .head _
  have kqT : Kq own ((T1, tupOf [w0, w1]) :: own) := Kq.cons
  have N2 : News h₀ L' h₁ (((T1, tupOf [w0, w1]) :: own) ++ fr₂) := N'
  clear N'
  generalize ((T1, tupOf [w0, w1]) :: own) = ownT at hT kqT N2 O'
  try dsimp only
  clear F N t O
  ktr_unf
  unfold Hold
  (rename Fr h₀ L' _ _ => F1; rename News h₀ L' _ _ => N1)
  have hST : SetAt ownT S D Ls xs := ⟨kqT _ hS, ⟨_, _, kqT _ hD⟩, ⟨_, kqT _ hL⟩, hth, hn1, hn2, hn3⟩
  refine Con.use (c_copy hST hx) (Fits.of (by decide) (by decide)) rfl rfl F1 X T N1 Cut.base t' O' ?_
  rintro v1 h2 tk2 own2 fr3 t2 F2 N2 O2 ⟨⟨S1, D1, L1, rfl, hset1, kq, nS, nD, nL⟩⟩
  clear F1 N1
  ktr_unf
  unfold Hold
  (rename Fr h₀ L' _ _ => F1; rename News h₀ L' _ _ => N1)
  have e0 : dels es xs 0 = xs := rfl
  refine loop_tup (fun i m own₁ => Kq ownT own₁ ∧ ∃ S' D' L' u, SetAt own₁ S' D' L' (dels es xs i) ∧ New ownT S' ∧ New ownT D' ∧ New ownT L' ∧ m = kb [("diff", .ref S'), ("others", .ref T1), ("self", .ref S)] u) rfl F1 N1 Cut.base t2 O2 (kq _ hT) ⟨kq, S1, D1, L1, _, hset1, nS, nD, nL, (kb_self (by exact ⟨rfl, rfl, rfl, trivial⟩)).symm⟩ ?_ ?_
  · clear F1 N1
    rintro I i x m1 own3 fr4 oI h tk nI hx' hT3 ⟨kT, S2, D2, L2, u, hset2, nS2, nD2, nL2, rfl⟩ nI3 t4 O4 F4 N4
    obtain ⟨e, zs, hes, hOx⟩ := hO i x hx'
    have hOx3 : Oth ((I, oI) :: own3) x e zs := (hOx.toQ (kqT.trans kT)).toQ Kq.cons
    have hset3 : SetAt ((I, oI) :: own3) S2 D2 L2 (dels es xs i) := hset2.toQ Kq.cons
    have hln : (dels es xs i).length ≤ 1000 := Nat.le_trans (dels_length es xs i) hx
    have kT3 : Kq ownT ((I, oI) :: own3) := kT.trans Kq.cons
    have hI3 : (I, oI) ∈ (I, oI) :: own3 := .head _
    have hT4 : (T1, tupOf [w0, w1]) ∈ (I, oI) :: own3 := .tail _ hT3
    have N5 : News h₀ L' h (((I, oI) :: own3) ++ fr4) := N4
    clear N4 hset2 hT3
    generalize (I, oI) :: own3 = ow at hOx3 hset3 kT3 hI3 hT4 N5 O4
    obtain ⟨hS2, ⟨hsh2, tk2', hD2⟩, ⟨n2, hL2⟩, -, -, -, -⟩ := id hset3
    have e1 := dels_succ (xs := xs) hes
    ktr_unf
    unfold Hold
    (rename Fr h₀ L' _ _ => F1; rename News h₀ L' _ _ => N1)
    refine Con.use (c_diff hset3 hOx3 hln) (Fits.of (by decide) (by decide)) rfl rfl F1 X T N1 Cut.base t4 O4 ?_
    rintro v9 h9 tk9 own9 fr9 t9 F9 N9 O9 ⟨⟨S4, D4, L4, rfl, ⟨hS4, ⟨hsh4, tk4, hD4⟩, ⟨n4, hL4⟩, hth4, d1, d2, d3⟩, kq4, nS4, nD4, nL4⟩⟩
    clear F1 N1
    rw [← e1] at hL4 hth4
    have hln4 : (dels es xs (i + 1)).length ≤ 1000 := Nat.le_trans (dels_length es xs (i + 1)) hx
    have hset4 : SetAt own9 S4 D4 L4 (dels es xs (i + 1)) := ⟨hS4, ⟨_, _, hD4⟩, ⟨_, hL4⟩, hth4, d1, d2, d3⟩
    have kT9 : Kq ownT own9 := kT3.trans kq4
    have nS5 : New ownT S4 := nS4.below kT3
    have nD5 : New ownT D4 := nD4.below kT3
    have nL5 : New ownT L4 := nL4.below kT3
    ktr_unf
    · rename (List.isEmpty _ = true) => hb
      have hn : dels es xs (i + 1) = [] := List.isEmpty_iff.mp hb
      have hi : i + 1 ≤ [w0, w1].length := (List.getElem?_eq_some_iff.mp hx').1
      have hm := dels_stop hn hi
      rw [hn, ← hm] at hset4
      dsimp only [TurnEndG]
      ktr_unf
      acc_keep
      exact ⟨S4, D4, L4, rfl, hset4, kqT.trans kT9, nS5.below kqT, nD5.below kqT, nL5.below kqT⟩
    · (rename Fr h₀ L' _ _ => F1; rename News h₀ L' _ _ => N1)
      exact ⟨_, _, _, own9, _, rfl, F1, N1, by with_reducible assumption, O9, kq4 _ hI3, fun p hp => by rw [List.mem_singleton.mp hp]; exact kq4 _ hT4, kT9.toF (nI.below kq), S4, D4, L4, _, hset4.toF (ne_flip (nS4 _ hI3)) (ne_flip (nD4 _ hI3)) (ne_flip (nL4 _ hI3)), nS5, nD5, nL5, (kb_self (by exact ⟨rfl, rfl, rfl, trivial⟩)).symm⟩
  · clear F1 N1
    rintro m1 own3 fr4 h tk ⟨kT, S2, D2, L2, u, hset2, nS2, nD2, nL2, rfl⟩ t4 O4 F4 N4
    ktr_unf
    acc_keep
    exact ⟨S2, D2, L2, rfl, hset2, kqT.trans kT, nS2.below kqT, nD2.below kqT, nL2.below kqT⟩
end
local macro_rules | `(tactic| walk_at "call ref") => `(tactic| (k_here; (with_reducible show wpAny _ _ (call (Value.ref 275) _ _) _ _ _); refine Hold.of ?_))
local macro_rules | `(tactic| walk_at "call ref") => `(tactic| (k_here; (with_reducible show wpAny _ _ (call (Value.ref 261) _ _) _ _ _); refine Hold.of ?_))
local macro_rules | `(tactic| walk_at "call ref") => `(tactic| (k_here; (with_reducible show wpAny _ _ (call (Value.ref 282) _ _) _ _ _); refine Hold.of ?_))
local macro_rules | `(tactic| acc_openK) => `(tactic| ((with_reducible show PySem.W.LenBack _ (Value.int _ _) _); (refine lenBack ?a ?b ?_); (case a => omega); (case b => omega); (try dsimp only)))
local macro_rules | `(tactic| ktr_unf) => `(tactic| repeat' (first | (k_unfold; (try dsimp only)) | walk1 | acc_openK | (dsimp only; walk1)))
section
example : True := by w_top off; trivial
theorem mkf_length (e : Value → Bool) (xs : List Value) : (mk (xs.filter e)).length ≤ xs.length := Nat.le_trans (mk_length _) (List.length_filter_le _ _)
theorem beqI (a b : Nat) : ((a : Int) == (b : Int)) = decide (a = b) := by
  by_cases h : a = b
  · subst h; simp
  · rw [decide_eq_false h, beq_eq_false_iff_ne]; omega
theorem beqI0 (a : Nat) : ((a : Int) == 0) = decide (a = 0) := beqI a 0
theorem c_issubset {w : World} {own : Led} {S D Ls S' D' Lo : Addr} {xs ys : List Value} (h : SetAt own S D Ls xs) (h' : SetAt own S' D' Lo ys) (hx : xs.length ≤ 400) (hy : ys.length ≤ 400) :
    Con w 233 340 400 [.ref S, .ref S'] own (fun v own' => Kq own own' ∧ v = .bool (decide ((mk (xs.filter (has ys))).length = xs.length))) := by
  obtain ⟨hS, ⟨hsh, tk, hD⟩, ⟨n, hL⟩, hth, hn1, hn2, hn3⟩ := id h
  obtain ⟨hSo, ⟨hsho, tko, hDo⟩, ⟨no, hLo⟩, htho, hno1, hno2, hno3⟩ := id h'
  intro prog A E Q s h₀ L m mg mb env outer fr₁ fr p loose mean hA hf hk F X T N t O k
  refine enter (K := Mine.hd.heap_39 w.params) (args := ⟨[.ref S, .ref S'], []⟩) (binds := [("self", .ref S), ("other", .ref S')]) hA hf hk F X T N t O (by k_is) (by k_is) (by decide) (BindsTo.of_eq rfl) (locs rfl) ?_ rfl rfl rfl (by decide)
  intro L' h₁ fr₂ F' N' t' O' bk
  refine PySem.wpAny_noRaise ?_
  try dsimp only
  clear F N t O
  ktr_unf
  have hl2 := mkf_length (has ys) xs
  unfold Hold
  (rename Fr h₀ L' _ _ => F1; rename News h₀ L' _ _ => N1)
  refine Con.use (c_intersect h (.set h' (by omega)) (by omega)) (Fits.of (by decide) (by decide)) rfl rfl F1 X T N1 Cut.base t' O' ?_
  rintro v1 h2 tk2 own2 fr2' t2 F2 N2 O2 ⟨⟨S2, D2, L2, rfl, hset2, kq2, nS2, nD2, nL2⟩⟩
  obtain ⟨hS2, ⟨hsh2, tk2', hD2⟩, ⟨n2, hL2⟩, hth2, a2, b2, c2⟩ := id hset2
  clear F1 N1
  ktr_unf
  acc_keep
  exact ⟨kq2, congrArg Value.bool (beqI _ _)⟩
theorem c_issuperset {w : World} {own : Led} {S D Ls S' D' Lo : Addr} {xs ys : List Value} (h : SetAt own S D Ls xs) (h' : SetAt own S' D' Lo ys) (hx : xs.length ≤ 400) (hy : ys.length ≤ 400) :
    Con w 240 340 400 [.ref S, .ref S'] own (fun v own' => Kq own own' ∧ v = .bool (decide ((mk (xs.filter (has ys))).length = ys.length))) := by
  obtain ⟨hS, ⟨hsh, tk, hD⟩, ⟨n, hL⟩, hth, hn1, hn2, hn3⟩ := id h
  obtain ⟨hSo, ⟨hsho, tko, hDo⟩, ⟨no, hLo⟩, htho, hno1, hno2, hno3⟩ := id h'
  intro prog A E Q s h₀ L m mg mb env outer fr₁ fr p loose mean hA hf hk F X T N t O k
  refine enter (K := Mine.hd.heap_39 w.params) (args := ⟨[.ref S, .ref S'], []⟩) (binds := [("self", .ref S), ("other", .ref S')]) hA hf hk F X T N t O (by k_is) (by k_is) (by decide) (BindsTo.of_eq rfl) (locs rfl) ?_ rfl rfl rfl (by decide)
  intro L' h₁ fr₂ F' N' t' O' bk
  refine PySem.wpAny_noRaise ?_
  try dsimp only
  clear F N t O
  ktr_unf
  have hl2 := mkf_length (has ys) xs
  unfold Hold
  (rename Fr h₀ L' _ _ => F1; rename News h₀ L' _ _ => N1)
  refine Con.use (c_intersect h (.set h' (by omega)) (by omega)) (Fits.of (by decide) (by decide)) rfl rfl F1 X T N1 Cut.base t' O' ?_
  rintro v1 h2 tk2 own2 fr2' t2 F2 N2 O2 ⟨⟨S2, D2, L2, rfl, hset2, kq2, nS2, nD2, nL2⟩⟩
  obtain ⟨hS2, ⟨hsh2, tk2', hD2⟩, ⟨n2, hL2⟩, hth2, a2, b2, c2⟩ := id hset2
  clear F1 N1
  ktr_unf
  acc_keep
  exact ⟨kq2, congrArg Value.bool (beqI _ _)⟩
theorem c_isdisjoint {w : World} {own : Led} {S D Ls S' D' Lo : Addr} {xs ys : List Value} (h : SetAt own S D Ls xs) (h' : SetAt own S' D' Lo ys) (hx : xs.length ≤ 400) (hy : ys.length ≤ 400) :
    Con w 226 340 400 [.ref S, .ref S'] own (fun v own' => Kq own own' ∧ v = .bool (decide ((mk (xs.filter (has ys))).length = 0))) := by
  obtain ⟨hS, ⟨hsh, tk, hD⟩, ⟨n, hL⟩, hth, hn1, hn2, hn3⟩ := id h
  obtain ⟨hSo, ⟨hsho, tko, hDo⟩, ⟨no, hLo⟩, htho, hno1, hno2, hno3⟩ := id h'
  intro prog A E Q s h₀ L m mg mb env outer fr₁ fr p loose mean hA hf hk F X T N t O k
  refine enter (K := Mine.hd.heap_39 w.params) (args := ⟨[.ref S, .ref S'], []⟩) (binds := [("self", .ref S), ("other", .ref S')]) hA hf hk F X T N t O (by k_is) (by k_is) (by decide) (BindsTo.of_eq rfl) (locs rfl) ?_ rfl rfl rfl (by decide)
  intro L' h₁ fr₂ F' N' t' O' bk
  refine PySem.wpAny_noRaise ?_
  try dsimp only
  clear F N t O
  ktr_unf
  have hl2 := mkf_length (has ys) xs
  unfold Hold
  (rename Fr h₀ L' _ _ => F1; rename News h₀ L' _ _ => N1)
  refine Con.use (c_intersect h (.set h' (by omega)) (by omega)) (Fits.of (by decide) (by decide)) rfl rfl F1 X T N1 Cut.base t' O' ?_
  rintro v1 h2 tk2 own2 fr2' t2 F2 N2 O2 ⟨⟨S2, D2, L2, rfl, hset2, kq2, nS2, nD2, nL2⟩⟩
  obtain ⟨hS2, ⟨hsh2, tk2', hD2⟩, ⟨n2, hL2⟩, hth2, a2, b2, c2⟩ := id hset2
  clear F1 N1
  ktr_unf
  acc_keep
  exact ⟨kq2, congrArg Value.bool (beqI0 _)⟩
theorem c_and {w : World} {own : Led} {S D Ls S' D' Lo : Addr} {xs ys : List Value} (h : SetAt own S D Ls xs) (h' : SetAt own S' D' Lo ys) (hx : xs.length ≤ 400) (hy : ys.length ≤ 400) :
    Con w 121 350 500 [.ref S, .ref S'] own (fun v own' => NewSet own own' v (mk (xs.filter (has ys)))) := by
  obtain ⟨hS, ⟨hsh, tk, hD⟩, ⟨n, hL⟩, hth, hn1, hn2, hn3⟩ := id h
  obtain ⟨hSo, ⟨hsho, tko, hDo⟩, ⟨no, hLo⟩, htho, hno1, hno2, hno3⟩ := id h'
  intro prog A E Q s h₀ L m mg mb env outer fr₁ fr p loose mean hA hf hk F X T N t O k
  refine enter (K := Mine.hd.heap_39 w.params) (args := ⟨[.ref S, .ref S'], []⟩) (binds := [("self", .ref S), ("other", .ref S')]) hA hf hk F X T N t O (by k_is) (by k_is) (by decide) (BindsTo.of_eq rfl) (locs rfl) ?_ rfl rfl rfl (by decide)
  intro L' h₁ fr₂ F' N' t' O' bk
  refine PySem.wpAny_noRaise ?_
  try dsimp only
  clear F N t O
  ktr_unf
  unfold Hold
  (rename Fr h₀ L' _ _ => F1; rename News h₀ L' _ _ => N1)
  refine Con.use (c_intersect h (.set h' (by omega)) (by omega)) (Fits.of (by decide) (by decide)) rfl rfl F1 X T N1 Cut.base t' O' ?_
  rintro v1 h2 tk2 own2 fr2' t2 F2 N2 O2 ⟨⟨S2, D2, L2, rfl, hset2, kq2, nS2, nD2, nL2⟩⟩
  obtain ⟨hS2, ⟨hsh2, tk2', hD2⟩, ⟨n2, hL2⟩, hth2, a2, b2, c2⟩ := id hset2
  clear F1 N1
  ktr_unf
  acc_keep
  exact ⟨S2, D2, L2, rfl, hset2, kq2, nS2, nD2, nL2⟩
theorem c_sub {w : World} {own : Led} {S D Ls S' D' Lo : Addr} {xs ys : List Value} (h : SetAt own S D Ls xs) (h' : SetAt own S' D' Lo ys) (hx : xs.length ≤ 400) (hy : ys.length ≤ 400) :
    Con w 149 350 500 [.ref S, .ref S'] own (fun v own' => NewSet own own' v (mk (xs.filter fun x => !has ys x))) := by
  obtain ⟨hS, ⟨hsh, tk, hD⟩, ⟨n, hL⟩, hth, hn1, hn2, hn3⟩ := id h
  obtain ⟨hSo, ⟨hsho, tko, hDo⟩, ⟨no, hLo⟩, htho, hno1, hno2, hno3⟩ := id h'
  intro prog A E Q s h₀ L m mg mb env outer fr₁ fr p loose mean hA hf hk F X T N t O k
  refine enter (K := Mine.hd.heap_39 w.params) (args := ⟨[.ref S, .ref S'], []⟩) (binds := [("self", .ref S), ("other", .ref S')]) hA hf hk F X T N t O (by k_is) (by k_is) (by decide) (BindsTo.of_eq rfl) (locs rfl) ?_ rfl rfl rfl (by decide)
  intro L' h₁ fr₂ F' N' t' O' bk
  refine PySem.wpAny_noRaise ?_
  try dsimp only
  clear F N t O
  ktr_unf
  unfold Hold
  (rename Fr h₀ L' _ _ => F1; rename News h₀ L' _ _ => N1)
  refine Con.use (c_diff h (.set h' (by omega)) (by omega)) (Fits.of (by decide) (by decide)) rfl rfl F1 X T N1 Cut.base t' O' ?_
  rintro v1 h2 tk2 own2 fr2' t2 F2 N2 O2 ⟨⟨S2, D2, L2, rfl, hset2, kq2, nS2, nD2, nL2⟩⟩
  obtain ⟨hS2, ⟨hsh2, tk2', hD2⟩, ⟨n2, hL2⟩, hth2, a2, b2, c2⟩ := id hset2
  clear F1 N1
  ktr_unf
  acc_keep
  exact ⟨S2, D2, L2, rfl, hset2, kq2, nS2, nD2, nL2⟩
theorem c_or {w : World} {own : Led} {S D Ls S' D' Lo : Addr} {xs ys : List Value} (h : SetAt own S D Ls xs) (h' : SetAt own S' D' Lo ys) (hx : xs.length ≤ 400) (hy : ys.length ≤ 400) :
    Con w 135 350 500 [.ref S, .ref S'] own (fun v own' => NewSet own own' v (add xs ys)) := by
  obtain ⟨hS, ⟨hsh, tk, hD⟩, ⟨n, hL⟩, hth, hn1, hn2, hn3⟩ := id h
  obtain ⟨hSo, ⟨hsho, tko, hDo⟩, ⟨no, hLo⟩, htho, hno1, hno2, hno3⟩ := id h'
  intro prog A E Q s h₀ L m mg mb env outer fr₁ fr p loose mean hA hf hk F X T N t O k
  refine enter (K := Mine.hd.heap_39 w.params) (args := ⟨[.ref S, .ref S'], []⟩) (binds := [("self", .ref S), ("other", .ref S')]) hA hf hk F X T N t O (by k_is) (by k_is) (by decide) (BindsTo.of_eq rfl) (locs rfl) ?_ rfl rfl rfl (by decide)
  intro L' h₁ fr₂ F' N' t' O' bk
  refine PySem.wpAny_noRaise ?_
  try dsimp only
  clear F N t O
  ktr_unf
  unfold Hold
  (rename Fr h₀ L' _ _ => F1; rename News h₀ L' _ _ => N1)
  refine Con.use (c_union1 (zss := [ys]) (h) (fun i v hv => by cases i with | zero => cases hv; exact ⟨_, _, rfl, .set (h') (by omega)⟩ | succ i => cases hv) (fun i zs hzs => by cases i with | zero => (cases hzs; show (xs : List Value).length + _ ≤ 1000; omega) | succ i => cases hzs) (by omega) (fun i => by cases i with | zero => exact SetAt.th (h) | succ i => (rw [List.take_of_length_le (by simp)]; exact add_th (SetAt.th (h)) (SetAt.th (h'))))) (Fits.of (by decide) (by decide)) rfl rfl F1 X T N1 Cut.base t' O' ?_
  rintro v1 h2 tk2 own2 fr2' t2 F2 N2 O2 ⟨⟨S2, D2, L2, rfl, hset2, kq2, nS2, nD2, nL2⟩⟩
  obtain ⟨hS2, ⟨hsh2, tk2', hD2⟩, ⟨n2, hL2⟩, hth2, a2, b2, c2⟩ := id hset2
  clear F1 N1
  ktr_unf
  acc_keep
  exact ⟨S2, D2, L2, rfl, hset2, kq2, nS2, nD2, nL2⟩
def symd (xs ys : List Value) : List Value := add (mk (xs.filter fun x => !has ys x)) (dels [has xs] ys 1)
theorem c_sym {w : World} {own : Led} {S D Ls S' D' Lo : Addr} {xs ys : List Value} (h : SetAt own S D Ls xs) (h' : SetAt own S' D' Lo ys) (hx : xs.length ≤ 400) (hy : ys.length ≤ 400) :
    Con w 282 350 500 [.ref S, .ref S'] own (fun v own' => NewSet own own' v (symd xs ys)) := by
  obtain ⟨hS, ⟨hsh, tk, hD⟩, ⟨n, hL⟩, hth, hn1, hn2, hn3⟩ := id h
  obtain ⟨hSo, ⟨hsho, tko, hDo⟩, ⟨no, hLo⟩, htho, hno1, hno2, hno3⟩ := id h'
  intro prog A E Q s h₀ L m mg mb env outer fr₁ fr p loose mean hA hf hk F X T N t O k
  refine enter (K := Mine.hd.heap_39 w.params) (args := ⟨[.ref S, .ref S'], []⟩) (binds := [("self", .ref S), ("other", .ref S')]) hA hf hk F X T N t O (by k_is) (by k_is) (by decide) (BindsTo.of_eq rfl) (locs rfl) ?_ rfl rfl rfl (by decide)
  intro L' h₁ fr₂ F' N' t' O' bk
  refine PySem.wpAny_noRaise ?_
  try dsimp only
  clear F N t O
  ktr_unf
  have hl2 := mkf_length (fun x => !has ys x) xs
  have hl3 := dels_length [has xs] ys 1
  unfold Hold
  (rename Fr h₀ L' _ _ => F1; rename News h₀ L' _ _ => N1)
  refine Con.use (c_diff h (.set h' (by omega)) (by omega)) (Fits.of (by decide) (by decide)) rfl rfl F1 X T N1 Cut.base t' O' ?_
  rintro v1 h2 tk2 own2 fr2' t2 F2 N2 O2 ⟨⟨S2, D2, L2, rfl, hset2, kq2, nS2, nD2, nL2⟩⟩
  obtain ⟨hS2, ⟨hsh2, tk2', hD2⟩, ⟨n2, hL2⟩, hth2, a2, b2, c2⟩ := id hset2
  clear F1 N1
  ktr_unf
  unfold Hold
  (rename Fr h₀ L' _ _ => F1; rename News h₀ L' _ _ => N1)
  refine Con.use (c_difference1 (es := [has xs]) (h'.toQ kq2) (fun i v hv => by cases i with | zero => cases hv; exact ⟨_, _, rfl, .set (h.toQ kq2) (by omega)⟩ | succ i => cases hv) (by omega)) (Fits.of (by decide) (by decide)) rfl rfl F1 X T N1 Cut.base t2 O2 ?_
  rintro v1 h3 tk3 own3 fr3' t3 F3 N3 O3 ⟨⟨S3, D3, L3, rfl, hset3, kq3, nS3, nD3, nL3⟩⟩
  obtain ⟨hS3, ⟨hsh3, tk3', hD3⟩, ⟨n3, hL3⟩, hth3, a3, b3, c3⟩ := id hset3
  clear F1 N1
  ktr_unf
  unfold Hold
  (rename Fr h₀ L' _ _ => F1; rename News h₀ L' _ _ => N1)
  refine Con.use (c_union1 (zss := [dels [has xs] ys 1]) (hset2.toQ kq3) (fun i v hv => by cases i with | zero => cases hv; exact ⟨_, _, rfl, .set (hset3) (by omega)⟩ | succ i => cases hv) (fun i zs hzs => by cases i with | zero => (cases hzs; show (mk (xs.filter fun x => !has ys x) : List Value).length + _ ≤ 1000; omega) | succ i => cases hzs) (by omega) (fun i => by cases i with | zero => exact SetAt.th (hset2.toQ kq3) | succ i => (rw [List.take_of_length_le (by simp)]; exact add_th (SetAt.th (hset2.toQ kq3)) (SetAt.th (hset3))))) (Fits.of (by decide) (by decide)) rfl rfl F1 X T N1 Cut.base t3 O3 ?_
  rintro v1 h4 tk4 own4 fr4' t4 F4 N4 O4 ⟨⟨S4, D4, L4, rfl, hset4, kq4, nS4, nD4, nL4⟩⟩
  obtain ⟨hS4, ⟨hsh4, tk4', hD4⟩, ⟨n4, hL4⟩, hth4, a4, b4, c4⟩ := id hset4
  clear F1 N1
  ktr_unf
  acc_keep
  exact ⟨S4, D4, L4, rfl, hset4, (kq2.trans kq3).trans kq4, nS4.below (kq2.trans kq3), nD4.below (kq2.trans kq3), nL4.below (kq2.trans kq3)⟩
end
local macro_rules | `(tactic| walk_at "call ref") => `(tactic| (k_here; (with_reducible show wpAny _ _ (call (Value.ref 233) _) _ _ _); (refine' Con.use ?c ?hA ?hf ?hk ?F ?X ?T ?N ?hc ?t ?O (fun v9 h9 tk9 own9 fr9 T9 F9 N9 O9 R9 => ?_)); (case N => k_asm); (case hc => acc_binds); (case c => exact c_issubset (by acc_peel) (by acc_peel) (by omega) (by omega)); (case hA => acc_state); (case hf => rfl); (case hk => rfl); (case F => k_asm); (case X => k_asm); (case T => k_asm); (case t => with_reducible assumption); (case O => acc_keepN); (obtain ⟨kq9, e8⟩ := R9; subst e8)))
local macro_rules | `(tactic| walk_at "call ref") => `(tactic| (k_here; (with_reducible show wpAny _ _ (call (Value.ref 240) _) _ _ _); (refine' Con.use ?c ?hA ?hf ?hk ?F ?X ?T ?N ?hc ?t ?O (fun v9 h9 tk9 own9 fr9 T9 F9 N9 O9 R9 => ?_)); (case N => k_asm); (case hc => acc_binds); (case c => exact c_issuperset (by acc_peel) (by acc_peel) (by omega) (by omega)); (case hA => acc_state); (case hf => rfl); (case hk => rfl); (case F => k_asm); (case X => k_asm); (case T => k_asm); (case t => with_reducible assumption); (case O => acc_keepN); (obtain ⟨kq9, e8⟩ := R9; subst e8)))
section
example : True := by w_top off; trivial
theorem c_le {w : World} {own : Led} {S D Ls S' D' Lo : Addr} {xs ys : List Value} (h : SetAt own S D Ls xs) (h' : SetAt own S' D' Lo ys) (hx : xs.length ≤ 400) (hy : ys.length ≤ 400) :
    Con w 93 335 380 [.ref S, .ref S'] own (fun v own' => Kq own own' ∧ v = .bool (decide ((mk (xs.filter (has ys))).length = xs.length))) := by
  obtain ⟨hS, ⟨hsh, tk, hD⟩, ⟨n, hL⟩, hth, hn1, hn2, hn3⟩ := id h
  obtain ⟨hSo, ⟨hsho, tko, hDo⟩, ⟨no, hLo⟩, htho, hno1, hno2, hno3⟩ := id h'
  intro prog A E Q s h₀ L m mg mb env outer fr₁ fr p loose mean hA hf hk F X T N t O k
  refine enter (K := Mine.hd.heap_39 w.params) (args := ⟨[.ref S, .ref S'], []⟩) (binds := [("self", .ref S), ("other", .ref S')]) hA hf hk F X T N t O (by k_is) (by k_is) (by decide) (BindsTo.of_eq rfl) (locs rfl) ?_ rfl rfl rfl (by decide)
  intro L' h₁ fr₂ F' N' t' O' bk
  refine PySem.wpAny_noRaise ?_
  try dsimp only
  clear F N t O
  ktr_unf
  acc_keep
  exact ⟨by assumption, rfl⟩
theorem c_ge {w : World} {own : Led} {S D Ls S' D' Lo : Addr} {xs ys : List Value} (h : SetAt own S D Ls xs) (h' : SetAt own S' D' Lo ys) (hx : xs.length ≤ 400) (hy : ys.length ≤ 400) :
    Con w 107 335 380 [.ref S, .ref S'] own (fun v own' => Kq own own' ∧ v = .bool (decide ((mk (xs.filter (has ys))).length = ys.length))) := by
  obtain ⟨hS, ⟨hsh, tk, hD⟩, ⟨n, hL⟩, hth, hn1, hn2, hn3⟩ := id h
  obtain ⟨hSo, ⟨hsho, tko, hDo⟩, ⟨no, hLo⟩, htho, hno1, hno2, hno3⟩ := id h'
  intro prog A E Q s h₀ L m mg mb env outer fr₁ fr p loose mean hA hf hk F X T N t O k
  refine enter (K := Mine.hd.heap_39 w.params) (args := ⟨[.ref S, .ref S'], []⟩) (binds := [("self", .ref S), ("other", .ref S')]) hA hf hk F X T N t O (by k_is) (by k_is) (by decide) (BindsTo.of_eq rfl) (locs rfl) ?_ rfl rfl rfl (by decide)
  intro L' h₁ fr₂ F' N' t' O' bk
  refine PySem.wpAny_noRaise ?_
  try dsimp only
  clear F N t O
  ktr_unf
  acc_keep
  exact ⟨by assumption, rfl⟩
theorem c_lt {w : World} {own : Led} {S D Ls S' D' Lo : Addr} {xs ys : List Value} (h : SetAt own S D Ls xs) (h' : SetAt own S' D' Lo ys) (hx : xs.length ≤ 400) (hy : ys.length ≤ 400) :
    Con w 100 335 380 [.ref S, .ref S'] own (fun v own' => Kq own own' ∧ v = .bool (decide (xs.length < ys.length) && (decide ((mk (xs.filter (has ys))).length = xs.length)))) := by
  obtain ⟨hS, ⟨hsh, tk, hD⟩, ⟨n, hL⟩, hth, hn1, hn2, hn3⟩ := id h
  obtain ⟨hSo, ⟨hsho, tko, hDo⟩, ⟨no, hLo⟩, htho, hno1, hno2, hno3⟩ := id h'
  intro prog A E Q s h₀ L m mg mb env outer fr₁ fr p loose mean hA hf hk F X T N t O k
  refine enter (K := Mine.hd.heap_39 w.params) (args := ⟨[.ref S, .ref S'], []⟩) (binds := [("self", .ref S), ("other", .ref S')]) hA hf hk F X T N t O (by k_is) (by k_is) (by decide) (BindsTo.of_eq rfl) (locs rfl) ?_ rfl rfl rfl (by decide)
  intro L' h₁ fr₂ F' N' t' O' bk
  refine PySem.wpAny_noRaise ?_
  try dsimp only
  clear F N t O
  ktr_unf
  · acc_keep
    have hlt : xs.length < ys.length := by omega
    refine ⟨by assumption, ?_⟩
    rw [decide_eq_true hlt, Bool.true_and]
  · acc_keep
    have hlt : ¬ xs.length < ys.length := by omega
    refine ⟨Kq.refl, ?_⟩
    rw [decide_eq_false hlt, decide_eq_false (by omega), Bool.false_and]
theorem c_gt {w : World} {own : Led} {S D Ls S' D' Lo : Addr} {xs ys : List Value} (h : SetAt own S D Ls xs) (h' : SetAt own S' D' Lo ys) (hx : xs.length ≤ 400) (hy : ys.length ≤ 400) :
    Con w 114 335 380 [.ref S, .ref S'] own (fun v own' => Kq own own' ∧ v = .bool (decide (ys.length < xs.length) && (decide ((mk (xs.filter (has ys))).length = ys.length)))) := by
  obtain ⟨hS, ⟨hsh, tk, hD⟩, ⟨n, hL⟩, hth, hn1, hn2, hn3⟩ := id h
  obtain ⟨hSo, ⟨hsho, tko, hDo⟩, ⟨no, hLo⟩, htho, hno1, hno2, hno3⟩ := id h'
  intro prog A E Q s h₀ L m mg mb env outer fr₁ fr p loose mean hA hf hk F X T N t O k
  refine enter (K := Mine.hd.heap_39 w.params) (args := ⟨[.ref S, .ref S'], []⟩) (binds := [("self", .ref S), ("other", .ref S')]) hA hf hk F X T N t O (by k_is) (by k_is) (by decide) (BindsTo.of_eq rfl) (locs rfl) ?_ rfl rfl rfl (by decide)
  intro L' h₁ fr₂ F' N' t' O' bk
  refine PySem.wpAny_noRaise ?_
  try dsimp only
  clear F N t O
  ktr_unf
  · acc_keep
    have hlt : ys.length < xs.length := by omega
    refine ⟨by assumption, ?_⟩
    rw [decide_eq_true hlt, Bool.true_and]
  · acc_keep
    have hlt : ¬ ys.length < xs.length := by omega
    refine ⟨Kq.refl, ?_⟩
    rw [decide_eq_false hlt, decide_eq_false (by omega), Bool.false_and]
theorem c_xor {w : World} {own : Led} {S D Ls S' D' Lo : Addr} {xs ys : List Value} (h : SetAt own S D Ls xs) (h' : SetAt own S' D' Lo ys) (hx : xs.length ≤ 400) (hy : ys.length ≤ 400) :
    Con w 170 345 450 [.ref S, .ref S'] own (fun v own' => NewSet own own' v (symd xs ys)) := by
  obtain ⟨hS, ⟨hsh, tk, hD⟩, ⟨n, hL⟩, hth, hn1, hn2, hn3⟩ := id h
  obtain ⟨hSo, ⟨hsho, tko, hDo⟩, ⟨no, hLo⟩, htho, hno1, hno2, hno3⟩ := id h'
  intro prog A E Q s h₀ L m mg mb env outer fr₁ fr p loose mean hA hf hk F X T N t O k
  refine enter (K := Mine.hd.heap_39 w.params) (args := ⟨[.ref S, .ref S'], []⟩) (binds := [("self", .ref S), ("other", .ref S')]) hA hf hk F X T N t O (by k_is) (by k_is) (by decide) (BindsTo.of_eq rfl) (locs rfl) ?_ rfl rfl rfl (by decide)
  intro L' h₁ fr₂ F' N' t' O' bk
  refine PySem.wpAny_noRaise ?_
  try dsimp only
  clear F N t O
  ktr_unf
  unfold Hold
  (rename Fr h₀ L' _ _ => F1; rename News h₀ L' _ _ => N1)
  refine Con.use (c_sym h h' (by omega) (by omega)) (Fits.of (by decide) (by decide)) rfl rfl F1 X T N1 Cut.base t' O' ?_
  rintro v1 h2 tk2 own2 fr2' t2 F2 N2 O2 ⟨⟨S2, D2, L2, rfl, hset2, kq2, nS2, nD2, nL2⟩⟩
  obtain ⟨hS2, ⟨hsh2, tk2', hD2⟩, ⟨n2, hL2⟩, hth2, a2, b2, c2⟩ := id hset2
  clear F1 N1
  ktr_unf
  acc_keep
  exact ⟨S2, D2, L2, rfl, hset2, kq2, nS2, nD2, nL2⟩
theorem c_iand {w : World} {own : Led} {S D Ls S' D' Lo : Addr} {xs ys : List Value} (h : SetAt own S D Ls xs) (h' : SetAt own S' D' Lo ys) (hx : xs.length ≤ 400) (hy : ys.length ≤ 400) :
    Con w 128 345 450 [.ref S, .ref S'] own (fun v own' => v = .ref S ∧ ∃ L2, SetAt own' S D L2 (mk (xs.filter (has ys))) ∧ Kp D own own' ∧ New own L2) := by
  obtain ⟨hS, ⟨hsh, tk, hD⟩, ⟨n, hL⟩, hth, hn1, hn2, hn3⟩ := id h
  obtain ⟨hSo, ⟨hsho, tko, hDo⟩, ⟨no, hLo⟩, htho, hno1, hno2, hno3⟩ := id h'
  intro prog A E Q s h₀ L m mg mb env outer fr₁ fr p loose mean hA hf hk F X T N t O k
  refine enter (K := Mine.hd.heap_39 w.params) (args := ⟨[.ref S, .ref S'], []⟩) (binds := [("self", .ref S), ("other", .ref S')]) hA hf hk F X T N t O (by k_is) (by k_is) (by decide) (BindsTo.of_eq rfl) (locs rfl) ?_ rfl rfl rfl (by decide)
  intro L' h₁ fr₂ F' N' t' O' bk
  refine PySem.wpAny_noRaise ?_
  try dsimp only
  clear F N t O
  ktr_unf
  unfold Hold
  (rename Fr h₀ L' _ _ => F1; rename News h₀ L' _ _ => N1)
  refine Con.use (c_intersect h (.set h' (by omega)) (by omega)) (Fits.of (by decide) (by decide)) rfl rfl F1 X T N1 Cut.base t' O' ?_
  rintro v1 h2 tk2 own2 fr2' t2 F2 N2 O2 ⟨⟨S2, D2, L2, rfl, hset2, kq2, nS2, nD2, nL2⟩⟩
  obtain ⟨hS2, ⟨hsh2, tk2', hD2⟩, ⟨n2, hL2⟩, hth2, a2, b2, c2⟩ := id hset2
  clear F1 N1
  ktr_unf
  unfold Hold
  (rename Fr h₀ L' _ _ => F1; rename News h₀ L' _ _ => N1)
  refine u_set (C := 306) (own := own2) F1 X N1 Cut.base (kq2 _ hS) (kq2 _ hD) t2 O2 (by k_is) (by k_is) (by k_is) (by k_is) (by k_get) (by k_put) (Nat.le_of_ble_eq_true rfl) (fun h5 own5 kp5 hm5 O5 F5 N5 => ?_)
  clear F1 N1
  ktr_unf
  acc_keep
  exact ⟨rfl, L2, ⟨kp5 _ (kq2 _ hS) hn3, ⟨_, _, hm5⟩, ⟨_, kp5 _ hL2 (ne_flip (nL2 _ hD))⟩, hset2.th, nL2 _ hS, nL2 _ hD, hn3⟩, kq2.then kp5, nL2⟩
theorem c_ior {w : World} {own : Led} {S D Ls S' D' Lo : Addr} {xs ys : List Value} (h : SetAt own S D Ls xs) (h' : SetAt own S' D' Lo ys) (hx : xs.length ≤ 400) (hy : ys.length ≤ 400) :
    Con w 142 345 450 [.ref S, .ref S'] own (fun v own' => v = .ref S ∧ ∃ L2, SetAt own' S D L2 (add xs ys) ∧ Kp D own own' ∧ New own L2) := by
  obtain ⟨hS, ⟨hsh, tk, hD⟩, ⟨n, hL⟩, hth, hn1, hn2, hn3⟩ := id h
  obtain ⟨hSo, ⟨hsho, tko, hDo⟩, ⟨no, hLo⟩, htho, hno1, hno2, hno3⟩ := id h'
  intro prog A E Q s h₀ L m mg mb env outer fr₁ fr p loose mean hA hf hk F X T N t O k
  refine enter (K := Mine.hd.heap_39 w.params) (args := ⟨[.ref S, .ref S'], []⟩) (binds := [("self", .ref S), ("other", .ref S')]) hA hf hk F X T N t O (by k_is) (by k_is) (by decide) (BindsTo.of_eq rfl) (locs rfl) ?_ rfl rfl rfl (by decide)
  intro L' h₁ fr₂ F' N' t' O' bk
  refine PySem.wpAny_noRaise ?_
  try dsimp only
  clear F N t O
  ktr_unf
  unfold Hold
  (rename Fr h₀ L' _ _ => F1; rename News h₀ L' _ _ => N1)
  refine Con.use (c_union1 (zss := [ys]) (h) (fun i v hv => by cases i with | zero => cases hv; exact ⟨_, _, rfl, .set (h') (by omega)⟩ | succ i => cases hv) (fun i zs hzs => by cases i with | zero => (cases hzs; show (xs : List Value).length + _ ≤ 1000; omega) | succ i => cases hzs) (by omega) (fun i => by cases i with | zero => exact SetAt.th (h) | succ i => (rw [List.take_of_length_le (by simp)]; exact add_th (SetAt.th (h)) (SetAt.th (h'))))) (Fits.of (by decide) (by decide)) rfl rfl F1 X T N1 Cut.base t' O' ?_
  rintro v1 h2 tk2 own2 fr2' t2 F2 N2 O2 ⟨⟨S2, D2, L2, rfl, hset2, kq2, nS2, nD2, nL2⟩⟩
  obtain ⟨hS2, ⟨hsh2, tk2', hD2⟩, ⟨n2, hL2⟩, hth2, a2, b2, c2⟩ := id hset2
  clear F1 N1
  ktr_unf
  unfold Hold
  (rename Fr h₀ L' _ _ => F1; rename News h₀ L' _ _ => N1)
  refine u_set (C := 306) (own := own2) F1 X N1 Cut.base (kq2 _ hS) (kq2 _ hD) t2 O2 (by k_is) (by k_is) (by k_is) (by k_is) (by k_get) (by k_put) (Nat.le_of_ble_eq_true rfl) (fun h5 own5 kp5 hm5 O5 F5 N5 => ?_)
  clear F1 N1
  ktr_unf
  acc_keep
  exact ⟨rfl, L2, ⟨kp5 _ (kq2 _ hS) hn3, ⟨_, _, hm5⟩, ⟨_, kp5 _ hL2 (ne_flip (nL2 _ hD))⟩, hset2.th, nL2 _ hS, nL2 _ hD, hn3⟩, kq2.then kp5, nL2⟩
theorem c_isub {w : World} {own : Led} {S D Ls S' D' Lo : Addr} {xs ys : List Value} (h : SetAt own S D Ls xs) (h' : SetAt own S' D' Lo ys) (hx : xs.length ≤ 400) (hy : ys.length ≤ 400) :
    Con w 163 345 450 [.ref S, .ref S'] own (fun v own' => v = .ref S ∧ ∃ L2, SetAt own' S D L2 (mk (xs.filter fun x => !has ys x)) ∧ Kp D own own' ∧ New own L2) := by
  obtain ⟨hS, ⟨hsh, tk, hD⟩, ⟨n, hL⟩, hth, hn1, hn2, hn3⟩ := id h
  obtain ⟨hSo, ⟨hsho, tko, hDo⟩, ⟨no, hLo⟩, htho, hno1, hno2, hno3⟩ := id h'
  intro prog A E Q s h₀ L m mg mb env outer fr₁ fr p loose mean hA hf hk F X T N t O k
  refine enter (K := Mine.hd.heap_39 w.params) (args := ⟨[.ref S, .ref S'], []⟩) (binds := [("self", .ref S), ("other", .ref S')]) hA hf hk F X T N t O (by k_is) (by k_is) (by decide) (BindsTo.of_eq rfl) (locs rfl) ?_ rfl rfl rfl (by decide)
  intro L' h₁ fr₂ F' N' t' O' bk
  refine PySem.wpAny_noRaise ?_
  try dsimp only
  clear F N t O
  ktr_unf
  unfold Hold
  (rename Fr h₀ L' _ _ => F1; rename News h₀ L' _ _ => N1)
  refine Con.use (c_diff h (.set h' (by omega)) (by omega)) (Fits.of (by decide) (by decide)) rfl rfl F1 X T N1 Cut.base t' O' ?_
  rintro v1 h2 tk2 own2 fr2' t2 F2 N2 O2 ⟨⟨S2, D2, L2, rfl, hset2, kq2, nS2, nD2, nL2⟩⟩
  obtain ⟨hS2, ⟨hsh2, tk2', hD2⟩, ⟨n2, hL2⟩, hth2, a2, b2, c2⟩ := id hset2
  clear F1 N1
  ktr_unf
  unfold Hold
  (rename Fr h₀ L' _ _ => F1; rename News h₀ L' _ _ => N1)
  refine u_set (C := 306) (own := own2) F1 X N1 Cut.base (kq2 _ hS) (kq2 _ hD) t2 O2 (by k_is) (by k_is) (by k_is) (by k_is) (by k_get) (by k_put) (Nat.le_of_ble_eq_true rfl) (fun h5 own5 kp5 hm5 O5 F5 N5 => ?_)
  clear F1 N1
  ktr_unf
  acc_keep
  exact ⟨rfl, L2, ⟨kp5 _ (kq2 _ hS) hn3, ⟨_, _, hm5⟩, ⟨_, kp5 _ hL2 (ne_flip (nL2 _ hD))⟩, hset2.th, nL2 _ hS, nL2 _ hD, hn3⟩, kq2.then kp5, nL2⟩
theorem c_ixor {w : World} {own : Led} {S D Ls S' D' Lo : Addr} {xs ys : List Value} (h : SetAt own S D Ls xs) (h' : SetAt own S' D' Lo ys) (hx : xs.length ≤ 400) (hy : ys.length ≤ 400) :
    Con w 177 345 450 [.ref S, .ref S'] own (fun v own' => v = .ref S ∧ ∃ L2, SetAt own' S D L2 (symd xs ys) ∧ Kp D own own' ∧ New own L2) := by
  obtain ⟨hS, ⟨hsh, tk, hD⟩, ⟨n, hL⟩, hth, hn1, hn2, hn3⟩ := id h
  obtain ⟨hSo, ⟨hsho, tko, hDo⟩, ⟨no, hLo⟩, htho, hno1, hno2, hno3⟩ := id h'
  intro prog A E Q s h₀ L m mg mb env outer fr₁ fr p loose mean hA hf hk F X T N t O k
  refine enter (K := Mine.hd.heap_39 w.params) (args := ⟨[.ref S, .ref S'], []⟩) (binds := [("self", .ref S), ("other", .ref S')]) hA hf hk F X T N t O (by k_is) (by k_is) (by decide) (BindsTo.of_eq rfl) (locs rfl) ?_ rfl rfl rfl (by decide)
  intro L' h₁ fr₂ F' N' t' O' bk
  refine PySem.wpAny_noRaise ?_
  try dsimp only
  clear F N t O
  ktr_unf
  unfold Hold
  (rename Fr h₀ L' _ _ => F1; rename News h₀ L' _ _ => N1)
  refine Con.use (c_sym h h' (by omega) (by omega)) (Fits.of (by decide) (by decide)) rfl rfl F1 X T N1 Cut.base t' O' ?_
  rintro v1 h2 tk2 own2 fr2' t2 F2 N2 O2 ⟨⟨S2, D2, L2, rfl, hset2, kq2, nS2, nD2, nL2⟩⟩
  obtain ⟨hS2, ⟨hsh2, tk2', hD2⟩, ⟨n2, hL2⟩, hth2, a2, b2, c2⟩ := id hset2
  clear F1 N1
  ktr_unf
  unfold Hold
  (rename Fr h₀ L' _ _ => F1; rename News h₀ L' _ _ => N1)
  refine u_set (C := 306) (own := own2) F1 X N1 Cut.base (kq2 _ hS) (kq2 _ hD) t2 O2 (by k_is) (by k_is) (by k_is) (by k_is) (by k_get) (by k_put) (Nat.le_of_ble_eq_true rfl) (fun h5 own5 kp5 hm5 O5 F5 N5 => ?_)
  clear F1 N1
  ktr_unf
  acc_keep
  exact ⟨rfl, L2, ⟨kp5 _ (kq2 _ hS) hn3, ⟨_, _, hm5⟩, ⟨_, kp5 _ hL2 (ne_flip (nL2 _ hD))⟩, hset2.th, nL2 _ hS, nL2 _ hD, hn3⟩, kq2.then kp5, nL2⟩
end
local macro_rules | `(tactic| walk_at "call builtin:list.pop") => `(tactic| (k_here; (with_reducible show wpAny _ _ (call (Value.builtin _) [Value.ref _]) _ _ _); refine Hold.of ?_))
local macro_rules | `(tactic| walk_at "call builtin:list.pop") => `(tactic| (k_here; (with_reducible show wpAny _ _ (call (Value.builtin _) [Value.ref _, _]) _ _ _); refine Hold.of ?_))
local macro_rules | `(tactic| walk_at "exec Raise some none") => `(tactic| (k_here; refine Hold.of ?_))
section
example : True := by w_top off; trivial
def tbObj (tvs : Array Value) : Obj := { cls := .type "traceback", dict := none, data := .fields tvs }
section
variable {prog : Program} {w : World} {A : Around} {E : Value → Shared → Prop} {s : Shared}
theorem setFlight_tb2 {e tb : Addr} {oe : Obj} {vs tvs : Array Value} {Q : Unit → Shared → Prop} (he : s.heap.get? e = some oe) (hd : oe.data = .fields vs) (h1 : vs[1]? = some (.ref tb)) (htb : s.heap.get? tb = some (tbObj tvs)) (hsz : 3 < tvs.size)
    (k : ∀ h₁ tvs', (∀ b, b ≠ tb → h₁.get? b = s.heap.get? b) → h₁.get? tb = some (tbObj tvs') → tvs'[3]? = some .none → Q () { s with heap := h₁ }) :
    wpAny (model prog w) A (setFlight (.ref e) none) Q E s := by
  refine wpAny_setFlight_none he hd h1 htb rfl hsz (k _ (tvs.setIfInBounds 3 .none) (fun b hb => Heap.get?_update_other _ _ (Ne.symm hb)) ?_ (by simp [hsz]))
  exact Heap.get?_update_self (Obj.mapFields (·.setIfInBounds 3 Value.none)) htb rfl

theorem note_on {env : Env} {l : List Env} {L e tb : Addr} {oe : Obj} {vs tvs : Array Value} {Q : Unit → Shared → Prop} (hfr : A.frames = some (env :: l)) (hl : ∀ h' : Heap, (∀ b, b ∈ frs (env :: l) → h'.get? b = s.heap.get? b) → h'.FunFrames {} (env :: l)) (hf : env.frame = some L)
    (he : s.heap.get? e = some oe) (hd : oe.data = .fields vs) (h1 : vs[1]? = some (.ref tb)) (htb : s.heap.get? tb = some (tbObj tvs)) (h3 : tvs[3]? = some .none) (hne : e ≠ tb)
    (k : ∀ h₁ tb2 tvs2, (∀ b o, b ∉ frs (env :: l) → b ≠ e → b ≠ tb → s.heap.get? b = some o → h₁.get? b = some o) → (∀ b o, b ∈ frs (env :: l) → s.heap.get? b = some o → ∃ sl, h₁.get? b = some { o with slots := sl }) →
      s.heap.get? tb2 = none → h₁.get? e = some (oe.mapFields (·.setIfInBounds 1 (.ref tb2))) → h₁.get? tb2 = some (tbObj tvs2) → 3 < tvs2.size → Q () { s with heap := h₁ }) :
    wpAny (model prog w) A (noteFrame (.ref e) env) Q E s := by
  have hsz3 : 3 < tvs.size := (Array.getElem?_eq_some_iff.mp h3).1
  have hsz1 : 1 < vs.size := (Array.getElem?_eq_some_iff.mp h1).1
  unfold noteFrame
  simp only [hf]
  refine wpAny_bind (wpAny_field he hd h1 ?_)
  rw [if_pos (by simp)]
  refine wpAny_bind (wpAny_field htb rfl h3 ?_)
  rw [if_neg (by simp [rawInt])]
  refine wpAny_bind (wpAny_setField htb rfl hsz3 ?_)
  have htl : tb ∉ frs (env :: l) := fun hm => by
    obtain ⟨_, o, ho, hnf⟩ := (hl s.heap fun _ _ => rfl).mem hm
    rw [htb] at ho; injection ho with ho; subst ho; exact hnf _ rfl
  have hel : e ∉ frs (env :: l) := fun hm => by
    obtain ⟨_, o, ho, hnf⟩ := (hl s.heap fun _ _ => rfl).mem hm
    rw [he] at ho; injection ho with ho; subst ho; exact hnf vs hd
  have hl₀ := hl (s.heap.update tb (Obj.mapFields fun x => x.setIfInBounds 3 Value.none)) fun b hb => Heap.get?_update_other _ _ fun q : tb = b => htl (by rw [q]; exact hb)
  have he₀ : (s.heap.update tb (Obj.mapFields fun x => x.setIfInBounds 3 Value.none)).get? e = some oe := (Heap.get?_update_other _ _ (Ne.symm hne)).trans he
  refine wpAny_bind (wpAny_frameOf_fun hfr hl₀ hf fun h₁ hs₁ => ?_)
  refine wpAny_bind (wpAny_entryPlaceOf fun pl hpl => ?_)
  unfold EntryCells.newEntry newFields
  refine wpAny_bind (wpAny_newObj_type ?_ (hpl.sizeOk5 _ _ _ _ _))
  have he₁ : h₁.get? e = some oe := (hs₁.2.1 e hel).trans he₀
  have he₂ := Heap.get?_push_of_some (h := h₁) { cls := .type "traceback", dict := none, data := .fields ([.ref tb, .ref L, .none, rawInt L, .none] ++ (if pl.isEmpty then List.replicate 6 Value.none else pl)).toArray } he₁
  refine wpAny_setField he₂ hd hsz1 ?_
  have hTe : h₁.objs.size ≠ e := Nat.ne_of_gt (Heap.lt_size he₁)
  have hd₃ := Obj.data_mapFields hd (·.setIfInBounds 1 (Value.ref h₁.objs.size))
  have hsz0 : (s.heap.update tb (Obj.mapFields fun x => x.setIfInBounds 3 Value.none)).objs.size = s.heap.objs.size := Heap.size_after_update ..
  have ht : s.heap.get? h₁.objs.size = none := Heap.get?_none_of_le (by rw [hs₁.1, hsz0]; exact Nat.le_refl _)
  refine k _ h₁.objs.size _ (fun b o hb hbe hbt hbo => ?_) (fun b o hb hbo => ?_) ht (Heap.get?_update_self _ he₂ (Obj.isFreed_of_fields hd₃)) ((Heap.get?_update_other _ _ (Ne.symm hTe)).trans (Heap.get?_push_size h₁ rfl)) (by simp)
  · rw [Heap.get?_update_other _ _ (Ne.symm hbe)]
    exact Heap.get?_push_of_some _ ((hs₁.2.1 b hb).trans ((Heap.get?_update_other _ _ (Ne.symm hbt)).trans hbo))
  · have hbo' : (s.heap.update tb (Obj.mapFields fun x => x.setIfInBounds 3 Value.none)).get? b = some o := (Heap.get?_update_other _ _ fun q : tb = b => htl (by rw [q]; exact hb)).trans hbo
    obtain ⟨sl, hsl⟩ := hs₁.2.2 b o hbo'
    refine ⟨sl, ?_⟩
    rw [Heap.get?_update_other _ _ (fun q => by subst q; exact hel hb)]
    exact Heap.get?_push_of_some _ hsl

/-- a new exception leaves its def -/
theorem leave_new {env : Env} {l : List Env} {L e : Addr} {hb h : Heap} {X : String} {m : Str → Option Value} {own fr₁ fr : Led} {Q : Unit → Shared → Prop}
    (hfr : A.frames = some (env :: l)) (hf : env.frame = some L) (hk : env.scope.kind = .function) (Tt : Tl l fr₁ fr) (hx : NewX none h s.heap e X) (F : Fr hb L h m) (N : News hb L h (own ++ fr)) (O : Off own l)
    (k : ∀ h' fr' oe tb tvs vs, Tl l fr₁ fr' → Fr hb L h' m → News hb L h' ((e, oe) :: (tb, tbObj tvs) :: (own ++ fr')) → Off ((e, oe) :: (tb, tbObj tvs) :: own) l → e ≠ tb → oe.cls = .type X → oe.data = .fields vs → vs[1]? = some (.ref tb) → tvs[3]? = some .none → New own e → New own tb → Q () { s with heap := h' }) :
    wpAny (model prog w) A («leaving» env (.ref e)) Q E s := by
  have Fs := Tt.1
  obtain ⟨ob, tt, he, hcls, hdt⟩ := hx.there
  have hNs : s.heap.Ns L m := F.ns.keeps hx.keeps
  have hff := frs_fun hf hk hNs Fs fun q hq => hx.keeps _ _ (N q (List.mem_append_right _ hq)).1
  have hadr : frs (env :: l) = L :: fr.map (·.1) := by rw [frs, List.filterMap_cons, hf]; exact congrArg _ Fs.addrs
  have hel : e ∉ frs l := fun hm => by
    have hm' : e ∈ frs (env :: l) := by rw [frs, List.filterMap_cons, hf]; exact .tail _ hm
    obtain ⟨_, o, ho, hnf⟩ := hff.mem hm'
    rw [he] at ho; injection ho with ho; subst ho; exact hnf _ hdt
  have hbL : ∀ b o, hb.get? b = some o → b ∉ frs (env :: l) := fun b o hbo hm => by
    rw [hadr] at hm
    rcases List.mem_cons.mp hm with q | hm
    · exact absurd (q ▸ Heap.lt_size hbo) (Nat.not_lt.mpr F.above)
    · obtain ⟨p, hp, q⟩ := List.mem_map.mp hm
      have := (N p (List.mem_append_right _ hp)).2.2
      rw [q, hbo] at this; cases this
  have hbe : ∀ b o, hb.get? b = some o → b ≠ e := fun b o hbo q => by
    have := F.keep b o hbo; rw [q, hx.new] at this; cases this
  have hbe' : hb.get? e = none := by
    cases q : hb.get? e with
    | none => rfl
    | some o => exact absurd rfl (hbe e o q)
  unfold «leaving»
  refine wpAny_bind (note_new hfr hff hf he hdt (by simp) fun h₁ tb tvs k1 k2 htb he₁ ht₁ hsz => ?_)
  have hvs1 : ((#[tt, .none, Option.getD none .none, .none, .bool false, .none] : Array Value).setIfInBounds 1 (.ref tb))[1]? = some (.ref tb) := by simp
  have hdm := Obj.data_mapFields hdt (·.setIfInBounds 1 (Value.ref tb))
  refine setFlight_tb2 (s := { s with heap := h₁ }) he₁ hdm hvs1 ht₁ hsz fun h₂ tvs₂ k3 ht₂ h3 => ?_
  have htbe : tb ≠ e := fun q => by rw [q, he] at htb; cases htb
  have he₂ := (k3 e (Ne.symm htbe)).trans he₁
  have stay : ∀ b o, b ∉ frs (env :: l) → b ≠ e → s.heap.get? b = some o → h₂.get? b = some o := fun b o hb1 hb2 hbo =>
    (k3 b fun q => by rw [q, htb] at hbo; cases hbo).trans (k1 b o hb1 hb2 hbo)
  have slot : ∀ b o, b ∈ frs (env :: l) → s.heap.get? b = some o → ∃ sl, h₂.get? b = some { o with slots := sl } := fun b o hb1 hbo => by
    obtain ⟨sl, hsl⟩ := k2 b o hb1 hbo
    exact ⟨sl, (k3 b fun q => by rw [q, htb] at hbo; cases hbo).trans hsl⟩
  obtain ⟨oL, es, ep, hL, hLr⟩ := hNs
  have F₂ : Fr hb L h₂ m := by
    obtain ⟨sl, hsl⟩ := slot L oL (by rw [hadr]; exact .head _) hL
    exact ⟨⟨_, es, ep, hsl, hLr⟩, fun b o hbo => stay b o (hbL b o hbo) (hbe b o hbo) (hx.keeps _ _ (F.keep b o hbo)), F.above⟩
  have htb' : hb.get? tb = none := by
    cases q : hb.get? tb with
    | none => rfl
    | some o => have := hx.keeps _ _ (F.keep tb o q); rw [htb] at this; cases this
  have htbl : ∀ b o, s.heap.get? b = some o → tb ≠ b := fun b o hbo q => by rw [← q, htb] at hbo; cases hbo
  have htl : tb ∉ frs l := fun hm => by
    have hm' : tb ∈ frs (env :: l) := by rw [frs, List.filterMap_cons, hf]; exact .tail _ hm
    obtain ⟨_, o, ho, hnf⟩ := hff.mem hm'
    rw [htb] at ho; cases ho
  obtain ⟨fr', SU, hfr'⟩ := TI.sameUp_of (h' := h₂) (frs := fr) fun p hp =>
    slot p.1 p.2 (by rw [hadr]; exact List.mem_cons_of_mem _ (List.mem_map_of_mem hp)) (hx.keeps _ _ (N p (List.mem_append_right _ hp)).1)
  have hLf : ∀ b, h.get? b = none → b ≠ L := fun b hb q => by
    obtain ⟨o, _, _, ho, _⟩ := F.ns
    rw [← q, hb] at ho; cases ho
  refine k h₂ fr' _ tb tvs₂ _ (Tt.up SU) F₂ (fun p hp => ?_) (Off.cons hel (Off.cons htl O)) (Ne.symm htbe) ?_ hdm hvs1 h3 (fun p hp q => by have p1 := (N p (List.mem_append_left _ hp)).1; rw [q, hx.new] at p1; cases p1) (fun p hp q => by have p1 := hx.keeps _ _ (N p (List.mem_append_left _ hp)).1; rw [q, htb] at p1; cases p1)
  · rcases List.mem_cons.mp hp with rfl | hp
    · exact ⟨he₂, hLf _ hx.new, hbe'⟩
    rcases List.mem_cons.mp hp with rfl | hp
    · exact ⟨ht₂, htbl _ _ hL, htb'⟩
    · rcases List.mem_append.mp hp with hp | hp
      · obtain ⟨p1, p2, p3⟩ := N p (List.mem_append_left _ hp)
        refine ⟨stay p.1 p.2 (fun hm => ?_) (fun q => by rw [q, hx.new] at p1; cases p1) (hx.keeps _ _ p1), p2, p3⟩
        rw [frs, List.filterMap_cons, hf] at hm
        rcases List.mem_cons.mp hm with q | hm
        · exact p2 q
        · exact O p hp hm
      · obtain ⟨x, hx', q⟩ := SU.fwd p hp
        obtain ⟨_, p2, p3⟩ := N x (List.mem_append_right _ hx')
        exact ⟨hfr' p hp, by rw [q]; exact p2, by rw [q]; exact p3⟩
  · obtain ⟨c, d, dt, sl⟩ := ob
    obtain rfl : dt = _ := hdt
    exact hcls
end
end
section
example : True := by w_top off; trivial
section
variable {prog : Program} {w : World} {A : Around} {E : Value → Shared → Prop} {s : Shared}
/-- an exception that left a def is met and taken by the caller's own clause -/
theorem catch_fly {env : Env} {l : List Env} {L e tb : Addr} {hb : Heap} {X T : String} {m : Str → Option Value} {own fr₁ fr : Led} {oe : Obj} {vs tvs : Array Value} {t : Expr} {b₀ : Stmt} {suite : List Stmt} {pos : Pos} {rest : List ExceptHandler} {Q : Flow → Shared → Prop}
    (hfr : A.frames = some (env :: l)) (hf : env.frame = some L) (hk : env.scope.kind = .function) (Tt : Tl l fr₁ fr) (F : Fr hb L s.heap m) (N : News hb L s.heap ((e, oe) :: (tb, tbObj tvs) :: (own ++ fr))) (O : Off ((e, oe) :: (tb, tbObj tvs) :: own) l)
    (hne : e ≠ tb) (hcls : oe.cls = .type X) (hd : oe.data = .fields vs) (h1 : vs[1]? = some (.ref tb)) (h3 : tvs[3]? = some .none) (ne : New own e) (nt : New own tb)
    (hname : ∀ (s' : Shared) (Q' : Value → Shared → Prop), Fr hb L s'.heap m → Q' (.type T) s' → wpAny (model prog w) (A.mark (some (.ref e))) (eval t env) Q' E s')
    (hexc : isSubtype (.type T) (.type "BaseException") = pure true) (hnt : isSubtype (.type ((Manifest.find? T).elim "type" fun y => y.metatype)) (.type "tuple") = pure false) (hsub : isSubtype (.type X) (.type T) = pure true)
    (k : ∀ h' fr', Tl l fr₁ fr' → Fr hb L h' m → News hb L h' (own ++ fr') → wpAny (model prog w) (A.mark (some (.ref e))) (execs (b₀ :: suite) env) Q E { s with heap := h' })
    (hE : PassesOwnAt (model prog w) (A.mark (some (.ref e))) A env E) :
    wpAny (model prog w) A (noteFrame (.ref e) env) (fun _ s₂ => wpAny (model prog w) A (setFlight (.ref e) none) (fun _ s₃ =>
      wpAny (model prog w) A (handleBy (.ref e) env (.ExceptHandler (some t) none (b₀ :: suite) pos :: rest)) Q E s₃) E s₂) E s := by
  have Fs := Tt.1
  obtain ⟨he, heL, heb⟩ := N _ (.head _)
  obtain ⟨htb, htL, htbb⟩ := N _ (.tail _ (.head _))
  have Nf : ∀ q ∈ fr, s.heap.get? q.1 = some q.2 := fun q hq => (N q (.tail _ (.tail _ (List.mem_append_right _ hq)))).1
  have hadr : frs (env :: l) = L :: fr.map (·.1) := by rw [frs, List.filterMap_cons, hf]; exact congrArg _ Fs.addrs
  have hff : ∀ h' : Heap, (∀ b, b ∈ frs (env :: l) → h'.get? b = s.heap.get? b) → h'.FunFrames {} (env :: l) := fun h' hs => by
    obtain ⟨oL, es, ep, hL, hLr⟩ := F.ns
    exact frs_fun (m := m) hf hk ⟨oL, es, ep, (hs L (by rw [hadr]; exact .head _)).trans hL, hLr⟩ Fs fun q hq => (hs q.1 (by rw [hadr]; exact .tail _ (List.mem_map_of_mem hq))).trans (Nf q hq)
  have hel : e ∉ frs l := O _ (.head _)
  have htl : tb ∉ frs l := O _ (.tail _ (.head _))
  have hbL : ∀ b o, hb.get? b = some o → b ∉ frs (env :: l) := fun b o hbo hm => by
    rw [hadr] at hm
    rcases List.mem_cons.mp hm with q | hm
    · exact absurd (q ▸ Heap.lt_size hbo) (Nat.not_lt.mpr F.above)
    · obtain ⟨p, hp, q⟩ := List.mem_map.mp hm
      have := (N p (.tail _ (.tail _ (List.mem_append_right _ hp)))).2.2
      rw [q, hbo] at this; cases this
  have hbe : ∀ b o, hb.get? b = some o → b ≠ e := fun b o hbo q => by rw [q, heb] at hbo; cases hbo
  have hbt : ∀ b o, hb.get? b = some o → b ≠ tb := fun b o hbo q => by rw [q, htbb] at hbo; cases hbo
  refine note_on hfr hff hf he hd h1 htb h3 hne fun h₁ tb2 tvs2 k1 k2 ht2 he₁ ht₁ hsz => ?_
  have hvs1 : (vs.setIfInBounds 1 (.ref tb2))[1]? = some (.ref tb2) := by
    have hsz1 : 1 < vs.size := (Array.getElem?_eq_some_iff.mp h1).1
    simp [hsz1]
  have hdm := Obj.data_mapFields hd (·.setIfInBounds 1 (Value.ref tb2))
  refine setFlight_tb (s := { s with heap := h₁ }) he₁ hdm hvs1 ht₁ hsz fun h₂ tvs₃ k3 ht₂ hsz₂ => ?_
  have htbe : tb2 ≠ e := fun q => by rw [q, he] at ht2; cases ht2
  have he₂ := (k3 e (Ne.symm htbe)).trans he₁
  have stay : ∀ b o, b ∉ frs (env :: l) → b ≠ e → b ≠ tb → s.heap.get? b = some o → h₂.get? b = some o := fun b o hb1 hb2 hb3 hbo =>
    (k3 b fun q => by rw [q, ht2] at hbo; cases hbo).trans (k1 b o hb1 hb2 hb3 hbo)
  have slot : ∀ b o, b ∈ frs (env :: l) → s.heap.get? b = some o → ∃ sl, h₂.get? b = some { o with slots := sl } := fun b o hb1 hbo => by
    obtain ⟨sl, hsl⟩ := k2 b o hb1 hbo
    exact ⟨sl, (k3 b fun q => by rw [q, ht2] at hbo; cases hbo).trans hsl⟩
  obtain ⟨oL, es, ep, hL, hLr⟩ := F.ns
  have F₂ : Fr hb L h₂ m := by
    obtain ⟨sl, hsl⟩ := slot L oL (by rw [hadr]; exact .head _) hL
    exact ⟨⟨_, es, ep, hsl, hLr⟩, fun b o hbo => stay b o (hbL b o hbo) (hbe b o hbo) (hbt b o hbo) (F.keep b o hbo), F.above⟩
  refine wpAny_handleBy_builtin (X := X) (T := T) (b := true) hexc hnt hsub (wpAny_passesOwnAt hE (hname { s with heap := h₂ } _ F₂ ⟨rfl, ⟨_, he₂, ?_⟩, ?_⟩))
  · obtain ⟨c, d, dt, sl⟩ := oe
    obtain rfl : dt = _ := hd
    exact hcls
  rw [if_pos rfl]
  refine setFlight_tb (s := { s with heap := h₂ }) he₂ hdm hvs1 ht₂ hsz₂ fun h₃ tvs₄ k4 ht₃ hsz₃ => ?_
  have stay₃ : ∀ b o, b ∉ frs (env :: l) → b ≠ e → b ≠ tb → s.heap.get? b = some o → h₃.get? b = some o := fun b o hb1 hb2 hb3 hbo =>
    (k4 b fun q => by rw [q, ht2] at hbo; cases hbo).trans (stay b o hb1 hb2 hb3 hbo)
  have slot₃ : ∀ b o, b ∈ frs (env :: l) → s.heap.get? b = some o → ∃ sl, h₃.get? b = some { o with slots := sl } := fun b o hb1 hbo => by
    obtain ⟨sl, hsl⟩ := slot b o hb1 hbo
    exact ⟨sl, (k4 b fun q => by rw [q, ht2] at hbo; cases hbo).trans hsl⟩
  have F₃ : Fr hb L h₃ m := by
    obtain ⟨sl, hsl⟩ := slot₃ L oL (by rw [hadr]; exact .head _) hL
    exact ⟨⟨_, es, ep, hsl, hLr⟩, fun b o hbo => stay₃ b o (hbL b o hbo) (hbe b o hbo) (hbt b o hbo) (F.keep b o hbo), F.above⟩
  obtain ⟨fr', SU, hfr'⟩ := TI.sameUp_of (h' := h₃) (frs := fr) fun p hp =>
    slot₃ p.1 p.2 (by rw [hadr]; exact List.mem_cons_of_mem _ (List.mem_map_of_mem hp)) (Nf p hp)
  refine wpAny_passesOwnAt hE (k h₃ fr' (Tt.up SU) F₃ fun p hp => ?_)
  rcases List.mem_append.mp hp with hp | hp
  · obtain ⟨p1, p2, p3⟩ := N p (.tail _ (.tail _ (List.mem_append_left _ hp)))
    refine ⟨stay₃ p.1 p.2 (fun hm => ?_) (ne p hp) (nt p hp) p1, p2, p3⟩
    rw [frs, List.filterMap_cons, hf] at hm
    rcases List.mem_cons.mp hm with q | hm
    · exact p2 q
    · exact O p (.tail _ (.tail _ hp)) hm
  · obtain ⟨x, hx', q⟩ := SU.fwd p hp
    obtain ⟨_, p2, p3⟩ := N x (.tail _ (.tail _ (List.mem_append_right _ hx')))
    exact ⟨hfr' p hp, by rw [q]; exact p2, by rw [q]; exact p3⟩
end
end
section
example : True := by w_top off; trivial
/-- what a def answers or raises -/
def ConX (w : World) (f : Addr) (D U : Nat) (args : List Value) (own : Led) (X : String) (R : Value → Led → Prop) (C : Prop) : Prop :=
  ∀ {prog : Program} {A : Around} {E Q : Value → Shared → Prop} {s : Shared} {h₀ : Heap} {L : Addr} {m mg mb : Str → Option Value} {env : Env} {outer : List Env} {fr₁ fr : Led} {p : Program} {loose : List Str} {mean : ExcName → Option Value},
    Fits A D U (env :: outer) → env.frame = some L → env.scope.kind = .function → Fr h₀ L s.heap m → (Mine.hd.heap_39 w.params).In h₀ → Top p loose mean mg mb h₀ → News h₀ L s.heap (own ++ fr) → Tl outer fr₁ fr → Off own outer →
    (∀ (v : Value) (h' : Heap) (tk' : Nat) (own' fr' : Led), Tl outer fr₁ fr' → Fr h₀ L h' m → News h₀ L h' (own' ++ fr') → Off own' outer → R v own' → Q v { s with heap := h', toks := tk' }) →
    (∀ (e tb : Addr) (oe : Obj) (vs tvs : Array Value) (h' : Heap) (tk' : Nat) (fr' : Led), C → Tl outer fr₁ fr' → Fr h₀ L h' m → News h₀ L h' ((e, oe) :: (tb, tbObj tvs) :: (own ++ fr')) →
      Off ((e, oe) :: (tb, tbObj tvs) :: own) outer → e ≠ tb → oe.cls = .type X → oe.data = .fields vs → vs[1]? = some (.ref tb) → tvs[3]? = some .none → New own e → New own tb → E (.ref e) { s with heap := h', toks := tk' }) →
    wpAny (model prog w) A (call (.ref f) args) Q E s
theorem c_pop {w : World} {own : Led} {S D Ls : Addr} {xs : List Value} (h : SetAt own S D Ls xs) (hz : xs.length ≤ 1000) :
    ConX w 247 380 800 [.ref S] own "KeyError" (fun v own' => xs ≠ [] ∧ v = xs.getD (xs.length - 1) .none ∧ Kp Ls own own' ∧ ∃ n, (Ls, listOf (xs.eraseIdx (xs.length - 1)).toArray n) ∈ own') (xs = []) := by
  obtain ⟨hS, ⟨hsh, tk, hD⟩, ⟨n, hL⟩, hth, hn1, hn2, hn3⟩ := h
  intro prog A E Q s h₀ L m mg mb env outer fr₁ fr p loose mean hA hf hk F X T N t O k kE
  refine enter (K := Mine.hd.heap_39 w.params) (args := ⟨[.ref S], []⟩) (binds := [("self", .ref S)]) hA hf hk F X T N t O (by k_is) (by k_is) (by decide) (BindsTo.of_eq rfl) (locs rfl) ?_ rfl rfl rfl (by decide)
  intro L' h₁ fr₂ F' N' t' O' bk
  try dsimp only
  clear F N t O
  ktr_unf
  · rename (List.isEmpty _ = true) => hb
    have hcond : xs = [] := List.isEmpty_iff.mp hb
    unfold Hold
    refine Raise_new rfl ?_
    ktr_unf
    rename Heap.NewExc _ _ _ _ => hx
    refine leave_new rfl rfl rfl (Tl.refl t'.1) (NewX.of hx) F' N' O' fun h5 fr5 oe tb tvs vs t5 F5 N5 O5 hne hc hd h1 h3 w1 w2 => ?_
    refine bk.go F5 N5 Cut.b2 t5 O5 fun fr6 t6 F6 N6 O6 => ?_
    exact kE _ _ _ _ _ _ _ _ hcond t6 F6 N6 O6 hne hc hd h1 h3 w1 w2
  · unfold Hold
    rename (List.isEmpty _ = false) => hb
    have hcond : xs ≠ [] := fun q => by rw [q] at hb; cases hb
    have hpos : 0 < xs.length := List.length_pos_iff.mpr hcond
    (rename Fr h₀ L' _ _ => F1; rename News h₀ L' _ _ => N1)
    refine u_pop_last F1 N1 Cut.base hL t' O' hz hpos (fun h5 own5 n5 kp5 hm5 O5 F5 N5 => ?_)
    clear F1 N1
    dsimp only
    acc_keep
    exact ⟨hcond, rfl, kp5, n5, hm5⟩
end
section
example : True := by w_top off; trivial
theorem seqIndex_out {k : Int} {n : Nat} (h0 : 0 ≤ k) (hn : (n : Int) ≤ k) : seqIndex? k n = none := by
  unfold seqIndex?
  have h1 : ¬ k < 0 := by omega
  simp [h1]
  omega
open MeetsSeq in
theorem list_delitem_out (l : Addr) (items : Array Value) (n : Nat) (i : Int) (u : Tok) (hfit : Builtin.List.listFitsIndex i = true) (hk : seqIndex? i items.size = none) :
    Meets (Builtin.«list.__delitem__» ⟨[.ref l, .int i u], []⟩)
      (fun A R s => s.heap.get? l = some { cls := .type "list", dict := none, data := .seq items n, slots := #[] } ∧ raisesNew "IndexError" A R s) :=
  .of_wp fun prog w A R s h => by
    obtain ⟨hp, g, d, tk, os⟩ := s; obtain ⟨hl, h⟩ := h
    have hf : ¬ (!Builtin.List.listFitsIndex i) = true := by simp [hfit]
    have f1 := AutoSeq1.idx_int
    wp_walk using wpAny_loadPart' hl
    simp only [hk]
    wp_walk
    exact_raiseError plainExc_IndexError h.1 h.2
section
variable {prog : Program} {w : World} {A : Around} {E : Value → Shared → Prop} {Q : Unit → Shared → Prop} {s : Shared} {h₀ : Heap} {L D : Addr} {m : Str → Option Value} {own fr₁ fr news : Led} {outer : List Env} {xs : List Value} {n : Nat}
theorem del_led {x : Int} {j : Nat} {u : Tok} (hh : A.handled = none) (F : Fr h₀ L s.heap m) (N : News h₀ L s.heap news) (hc : Cut news own fr) (ha : (D, listOf xs.toArray n) ∈ own) (t : Tl outer fr₁ fr) (O : Off own outer) (hz : xs.length ≤ 1000) (hx : x = (j : Int)) (hj : j ≤ 1000)
    (k : j < xs.length → ∀ h' own' n', Kp D own own' → (D, listOf (xs.eraseIdx j).toArray n') ∈ own' → Off own' outer → Fr h₀ L h' m → News h₀ L h' (own' ++ fr) → Q () { s with heap := h' })
    (kE : xs.length ≤ j → ∀ h' tk' e, Heap.NewExc s.heap h' e "IndexError" → E (.ref e) { s with heap := h', toks := tk' }) : wpAny (model prog w) A (delItem (.ref D) (.int x u)) Q E s := by
  have hg := (N _ (hc.mem ha)).1
  have hfit : Builtin.List.listFitsIndex x = true := hx ▸ fits_j hj
  by_cases hlt : j < xs.length
  · refine PySem.delItem_meets ⟨_, hg, rfl⟩ (by decide) PySem.F.slot_list_delitem PySem.F.entry_list_delitem (PySem.F.args_list_delitem_2 _ _) (PySem.MeetsSeq.list_delitem_at D _ n x u j hfit (by rw [List.size_toArray]; exact (PySem.seqIndex_of (by omega) (by omega)).trans (congrArg some (by omega))) (by rw [List.size_toArray]; exact sizeLine_ge (by omega))) ⟨hg, ?_⟩
    exact list_turn (Q := fun _ s' => Q () s') _ _ F N hc ha t O (by simp) .none (k hlt)
  · refine PySem.delItem_meets ⟨_, hg, rfl⟩ (by decide) PySem.F.slot_list_delitem PySem.F.entry_list_delitem (PySem.F.args_list_delitem_2 _ _) (list_delitem_out D _ n x u hfit (by rw [List.size_toArray]; exact seqIndex_out (by omega) (by omega))) ⟨hg, hh, fun h' tk' e hx' => kE (by omega) h' tk' e hx'⟩
end
end
section
example : True := by w_top off; trivial
theorem slot_bytes_repr : Slot "bytes" "__repr__" "bytes.__repr__" :=
  .of (owner := "bytes") (n := "__repr__") (by rw [typeLookup_type, builtinLookup_eq_fast]; kernel_rfl) (by decide +kernel) (by decide +kernel) (by decide +kernel)
    (by first | exact .inl (by decide +kernel) | exact .inr (by decide +kernel)) (by rw [isSubtype_type]; kernel_rfl)
theorem entry_bytes_repr : entryFor table "bytes.__repr__" = some Builtin.«bytes.__repr__» := entryFor_of_tree (by kernel_rfl)
theorem args_bytes_repr (a : Value) : argsOk "bytes.__repr__" ⟨[a], []⟩ := by
  unfold argsOk; rw [signature?_of (id := "bytes.__repr__") (n := ['_', '_', 'r', 'p', 'e', 'r', '_', '_']) (o := ['s', 'e', 't', 'y', 'b']) (by kernel_rfl) FB.owner_bytes]; kernel_rfl
section
variable {prog : Program} {w : World} {A : Around} {E : Value → Shared → Prop} {s : Shared}
theorem repr_under {T id : String} {B : Builtin} {v : Value} {x : Str} {b : Nat} {Q : Value → Shared → Prop} (hT : s.TypeIs v T) (slot : Slot T "__repr__" id)
    (entry : entryFor table id = some B) (args : argsOk id ⟨[v], []⟩) (g : Gives (B ⟨[v], []⟩) (.str x)) (htw : reprUnder? (.builtin id) = none) (hv : [v].any Value.onHeap = false) (hx : x.length ≤ sizeLine)
    (h : ∀ t k, Q (.str x t) { s with toks := k }) : wpAny (model prog w) A (pyReprObjUnder b v) Q E s := by
  unfold pyReprObjUnder pyReprObjBy
  simp only [cRoomFor, hv, Bool.false_eq_true, if_false, pure_bind]
  refine wpAny_bind (wpAny_specialOf (name := Str.ofString "__repr__") hT slot.lookup ?_)
  refine wpAny_bind (wpAny_callSpecialIfBoundBy?_slotG (name := Str.ofString "__repr__") hT slot.toG ?_)
  simp only [htw]
  refine call_gives slot hT entry args g ⟨hx, ?_⟩
  exact wpAny_bind (wpAny_isInstance (T := "str") (b := true) rfl isSubtype_str_str (wpAny_pure (h _ _)))
end
theorem binaryOp1_leftF {M : Model} {A : Around} {E : Value → Shared → Prop} {s : Shared} {a b : Value} {T U nm id : String} {Q : Option Value → Shared → Prop} (hTU : T ≠ U) (ha : s.TypeIs a T) (hb : s.TypeIs b U)
    (hfT : fillsNumberSlot (.type T) nm = pure true) (hfU : fillsNumberSlot (.type U) nm = pure false) (h : Slot T (dunder nm) id)
    (hc : wpAny M A (call (.builtin id) [a, b]) (fun v s' => v ≠ .notImplemented ∧ Q (some v) s') E s) : wpAny M A (binaryOp1 nm a b) Q E s := by
  simp only [binaryOp1]
  refine wpAny_bind (wpAny_typeOf ha (wpAny_bind (wpAny_typeOf hb (wpAny_bind (wpAny_of_eq hfT ?_)))))
  have hne : (Value.type T == Value.type U) = false := by simpa using hTU
  simp only [hne, Bool.false_eq_true, if_false]
  refine wpAny_bind (wpAny_of_eq hfU ?_)
  simp only [Bool.and_false, Bool.false_eq_true, if_false, pure_bind, Bool.false_and, if_true]
  exact wpAny_bind (wpAny_tryMethod_slot ha h (wpAny_mono hc (fun v s' h' => ⟨h'.1, wpAny_pure h'.2⟩) fun _ _ h' => h'))
theorem binaryOp_leftF {M : Model} {A : Around} {E : Value → Shared → Prop} {s : Shared} {a b : Value} {T U id : String} {op : Operator} {Q : Value → Shared → Prop} (hTU : T ≠ U) (ha : s.TypeIs a T) (hb : s.TypeIs b U)
    (hfT : fillsNumberSlot (.type T) op.info.2 = pure true) (hfU : fillsNumberSlot (.type U) op.info.2 = pure false)
    (h : Slot T (dunder op.info.2) id)
    (hc : wpAny M A (call (.builtin id) [a, b]) (fun v s' => v ≠ .notImplemented ∧ Q v s') E s) : wpAny M A (binaryOp op a b) Q E s := by
  rcases hi : op.info with ⟨sym, nm⟩
  rw [hi] at hfT hfU h
  simp only [binaryOp, hi]
  refine wpAny_holding ?_
  exact wpAny_bind (binaryOp1_leftF hTU ha hb hfT hfU h (wpAny_mono hc (fun v s' h' => ⟨h'.1, wpAny_pure h'.2⟩) fun _ _ h' => h'))
section
variable {prog : Program} {w : World} {A : Around} {E : Value → Shared → Prop} {s : Shared}
theorem meets_r {v : Value} {y : Str} {t : Tok} {o : Option Str} (hent : Builtin.«str.__mod__» ⟨[.str (Str.ofString "%r") t, v], []⟩ = Builtin.Str.percentFormat (.str (Str.ofString "%r") t) (Str.ofString "%r") v) (htup : ∀ (M : Model) (A : Around) (E : Value → Shared → Prop) (s : Shared) (Q : Bool → Shared → Prop), Q false s → wpAny M A (isInstance v (.type "tuple")) Q E s)
    (hstr : asStr? v = pure o) (hfil : ∀ (M : Model) (A : Around) (E : Value → Shared → Prop) (s : Shared) (Q : Bool → Shared → Prop), (∀ b, Q b s) → wpAny M A (fillsMappingSlot v) Q E s)
    (hrep : ∀ (prog : Program) (w : World) (A : Around) (E : Value → Shared → Prop) (s : Shared) (b : Nat) (Q : Value → Shared → Prop), (∀ t k, Q (.str y t) { s with toks := k }) → wpAny (model prog w) A (pyReprObjUnder b v) Q E s) (hlen : y.length ≤ 100) :
    Meets (Builtin.«str.__mod__» ⟨[.str (Str.ofString "%r") t, v], []⟩) (fun _ R s => ∀ t' k, R (.ok (.ret (.str y t'))) { s with toks := k }) := by
  apply KPc.meets_of
  intro prog w A s Q E hQ
  rw [hent]
  unfold Builtin.Str.percentFormat
  refine wpAny_bind (htup _ _ _ _ _ ?_)
  refine wpAny_bind (wpAny_of_eq hstr ?_)
  refine wpAny_bind (hfil _ _ _ _ _ fun b => ?_)
  kpc_if
  refine wpAny_bind (wpAny_pure ?_)
  refine wpAny_bind ?_
  rw [KPc.range_list]
  refine KPc.start ?_
  intro w' g
  refine KPc.turn ?_
  kpc_check
  (repeat kpc_if)
  refine wpAny_bind ?_
  refine wpAny_holding ?_
  (repeat kpc_if)
  refine wpAny_bind ?_
  (repeat kpc_if)
  refine hrep _ _ _ _ _ _ _ fun t1 k1 => ?_
  refine wpAny_bind (wpAny_of_eq (a := some y) rfl ?_)
  refine wpAny_pure ?_
  refine wpAny_pure ?_
  refine KPc.after_str0 g hlen (by kpc_obj) ?_
  intro w2 g2
  kpc_turns
end

/-- the things that the law puts in, as far as '%r' goes -/
inductive Tc : Value → Prop
  | int {i : Int} {t : Tok} : 0 ≤ i → i < 100 → Tc (.int i t)
  | a {t : Tok} : Tc (.str (Str.ofString "a") t)
  | b {t : Tok} : Tc (.str (Str.ofString "b") t)
  | ba {t : Tok} : Tc (.bytes #[97] t)
  | bb {t : Tok} : Tc (.bytes #[98] t)
  | none : Tc .none
theorem Tc.th {v : Value} (h : Tc v) : Th v := by cases h <;> constructor
theorem gives_bytes_a (t : Tok) : Gives (Builtin.«bytes.__repr__» ⟨[.bytes #[97] t], []⟩) (.str "b'a'") := .of_eq (by kernel_rfl)
theorem gives_bytes_b (t : Tok) : Gives (Builtin.«bytes.__repr__» ⟨[.bytes #[98] t], []⟩) (.str "b'b'") := .of_eq (by kernel_rfl)
theorem fills_none_get {M : Model} {A : Around} {E : Value → Shared → Prop} {s : Shared} {Q : Bool → Shared → Prop} (h : ∀ b, Q b s) : wpAny M A (fillsMappingSlot .none) Q E s := by
  have e : fillsMappingSlot .none = pure false := by kernel_rfl
  exact wpAny_of_eq e (h _)
theorem fills_bytes_get {M : Model} {A : Around} {E : Value → Shared → Prop} {s : Shared} {Q : Bool → Shared → Prop} {b : Array UInt8} {t : Tok} (h : ∀ b, Q b s) : wpAny M A (fillsMappingSlot (.bytes b t)) Q E s := by
  have e : fillsMappingSlot (.bytes b t) = pure true := by kernel_rfl
  exact wpAny_of_eq e (h _)
theorem entry_is_b (F : PySem.Str) (x : Array UInt8) (t u : Tok) : Builtin.«str.__mod__» ⟨[.str F t, .bytes x u], []⟩ = Builtin.Str.percentFormat (.str F t) F (.bytes x u) := by kernel_rfl
theorem entry_is_n (F : PySem.Str) (t : Tok) : Builtin.«str.__mod__» ⟨[.str F t, .none], []⟩ = Builtin.Str.percentFormat (.str F t) F .none := by kernel_rfl
end
section
example : True := by w_top off; trivial
theorem fills_bytes_mod : fillsNumberSlot (.type "bytes") "mod" = pure true := by kernel_rfl
theorem fills_none_mod : fillsNumberSlot (.type "NoneType") "mod" = pure false := by kernel_rfl
theorem sub_none_tup : isSubtype (.type "NoneType") (.type "tuple") = pure false := by rw [isSubtype_type]; kernel_rfl
theorem sub_bytes_str' : isSubtype (.type "bytes") (.type "str") = pure false := by rw [isSubtype_type]; kernel_rfl
section
variable {prog : Program} {w : World} {A : Around} {E : Value → Shared → Prop} {s : Shared}
theorem fmt_r {v : Value} (hv : Tc v) {t : Tok} {Q : Value → Shared → Prop} (h : ∀ y t k, y.length ≤ 100 → Q (.str y t) { s with toks := k }) : wpAny (model prog w) A (binaryOp .Mod (.str (Str.ofString "%r") t) v) Q E s := by
  cases hv with
  | int h0 h1 =>
    rename_i i u
    have hlog : i.natAbs.log2 < 1920 := shown (N := 2 ^ 1920) (by omega) (by omega) (Int.le_refl _)
    have hl : (Str.ofString (toString i)).length ≤ 100 := Nat.le_trans (toString_length_le (k := 10) h0 (by decide) (by omega)) (by decide)
    refine AutoFloatOps.binaryOp_left_meets (T := "str") (U := "int") (op := .Mod) (by decide) (typeIs_str s _ t) (fun s' => typeIs_int s' i u) F.fills_str_mod F.fills_int_mod F.sub_int_str F.slot_str_mod F.slot_int_rmod F.entry_str_mod (F.args_str_mod_2 _ _)
      (meets_r (y := Str.ofString (toString i)) (KPc.entry_is _ _ _ _) (fun M A E s Q hq => wpAny_isInstance (typeIs_int _ _ _) F.sub_int_tuple hq) rfl (fun M A E s Q hq => wpAny_of_eq (KPc.fills _ _) (hq _)) (fun prog w A E s b Q hq => repr_under (typeIs_int _ _ _) F.slot_int_repr F.entry_int_repr (F.args_int_repr_1 _) (gives_int_repr _ _ hlog) rfl rfl (by rw [sizeLine_eq]; omega) hq) hl) (fun t' k => ⟨(fun e => nomatch e), h _ t' k hl⟩)
  | a =>
    refine binaryOp_meets (T := "str") (op := .Mod) (typeIs_str s _ t) (typeIs_str s _ _) F.fills_str_mod F.slot_str_mod F.entry_str_mod (F.args_str_mod_2 _ _)
      (meets_r (KPc.entry_is_s _ _ _ _) (fun M A E s Q hq => wpAny_isInstance (typeIs_str _ _ _) F.sub_str_tuple hq) rfl (fun M A E s Q hq => KPc.wp_fills_str hq) (fun prog w A E s b Q hq => repr_under (typeIs_str _ _ _) F.slot_str_repr F.entry_str_repr (F.args_str_repr_1 _) (gives_str_repr _ _) rfl rfl (by decide +kernel) hq) (by decide +kernel)) (fun t' k => ⟨(fun e => nomatch e), h _ t' k (by decide +kernel)⟩)
  | b =>
    refine binaryOp_meets (T := "str") (op := .Mod) (typeIs_str s _ t) (typeIs_str s _ _) F.fills_str_mod F.slot_str_mod F.entry_str_mod (F.args_str_mod_2 _ _)
      (meets_r (KPc.entry_is_s _ _ _ _) (fun M A E s Q hq => wpAny_isInstance (typeIs_str _ _ _) F.sub_str_tuple hq) rfl (fun M A E s Q hq => KPc.wp_fills_str hq) (fun prog w A E s b Q hq => repr_under (typeIs_str _ _ _) F.slot_str_repr F.entry_str_repr (F.args_str_repr_1 _) (gives_str_repr _ _) rfl rfl (by decide +kernel) hq) (by decide +kernel)) (fun t' k => ⟨(fun e => nomatch e), h _ t' k (by decide +kernel)⟩)
  | ba =>
    refine PySem.IsLeap.wpAny_binaryOp_left (T := "str") (U := "bytes") (op := .Mod) (by decide) (typeIs_str s _ t) rfl F.fills_str_mod fills_bytes_mod sub_bytes_str' F.slot_str_mod
      (call_meets F.slot_str_mod (typeIs_str s _ t) F.entry_str_mod (F.args_str_mod_2 _ _) (meets_r (entry_is_b _ _ _ _) (fun M A E s Q hq => wpAny_isInstance (T := "bytes") rfl F.sub_bytes_tuple hq) rfl (fun M A E s Q hq => fills_bytes_get hq) (fun prog w A E s b Q hq => repr_under (T := "bytes") rfl slot_bytes_repr entry_bytes_repr (args_bytes_repr _) (gives_bytes_a _) rfl rfl (by decide +kernel) hq) (by decide +kernel)) (fun t' k => ⟨(fun e => nomatch e), h _ t' k (by decide +kernel)⟩))
  | bb =>
    refine PySem.IsLeap.wpAny_binaryOp_left (T := "str") (U := "bytes") (op := .Mod) (by decide) (typeIs_str s _ t) rfl F.fills_str_mod fills_bytes_mod sub_bytes_str' F.slot_str_mod
      (call_meets F.slot_str_mod (typeIs_str s _ t) F.entry_str_mod (F.args_str_mod_2 _ _) (meets_r (entry_is_b _ _ _ _) (fun M A E s Q hq => wpAny_isInstance (T := "bytes") rfl F.sub_bytes_tuple hq) rfl (fun M A E s Q hq => fills_bytes_get hq) (fun prog w A E s b Q hq => repr_under (T := "bytes") rfl slot_bytes_repr entry_bytes_repr (args_bytes_repr _) (gives_bytes_b _) rfl rfl (by decide +kernel) hq) (by decide +kernel)) (fun t' k => ⟨(fun e => nomatch e), h _ t' k (by decide +kernel)⟩))
  | none =>
    refine binaryOp_leftF (T := "str") (U := "NoneType") (op := .Mod) (by decide) (typeIs_str s _ t) (typeIs_none s) F.fills_str_mod fills_none_mod F.slot_str_mod
      (call_meets F.slot_str_mod (typeIs_str s _ t) F.entry_str_mod (F.args_str_mod_2 _ _) (meets_r (entry_is_n _ _) (fun M A E s Q hq => wpAny_isInstance (typeIs_none _) sub_none_tup hq) rfl (fun M A E s Q hq => fills_none_get hq) (fun prog w A E s b Q hq => repr_under (typeIs_none _) F.slot_NoneType_repr F.entry_NoneType_repr (F.args_NoneType_repr_1 _) gives_none_repr rfl rfl (by decide +kernel) hq) (by decide +kernel)) (fun t' k => ⟨(fun e => nomatch e), h _ t' k (by decide +kernel)⟩))
end
end
local macro_rules | `(tactic| walk_at "binaryOp Mod") => `(tactic| (k_here; (with_reducible show wpAny _ _ (binaryOp Operator.Mod (Value.str _ _) _) _ _ _); (refine fmt_r (by with_reducible assumption) (fun y9 t9 k9 hl9 => ?_))))
section
example : True := by w_top off; trivial
theorem c_remove {w : World} {own : Led} {S D Ls : Addr} {xs : List Value} {x : Value} (h : SetAt own S D Ls xs) (hx : Tc x) (hz : xs.length ≤ 1000) :
    ConX w 254 370 700 [.ref S, x] own "KeyError" (fun v own' => has xs x = true ∧ v = .none ∧ Kp Ls own own' ∧ ∃ n, (Ls, listOf (xs.eraseIdx (find xs x)).toArray n) ∈ own') (has xs x = false) := by
  obtain ⟨hS, ⟨hsh, tk, hD⟩, ⟨n, hL⟩, hth, hn1, hn2, hn3⟩ := h
  have hxT := hx.th
  intro prog A E Q s h₀ L m mg mb env outer fr₁ fr p loose mean hA hf hk F X T N t O k kE
  refine enter (K := Mine.hd.heap_39 w.params) (args := ⟨[.ref S, x], []⟩) (binds := [("self", .ref S), ("item", x)]) hA hf hk F X T N t O (by k_is) (by k_is) (by decide) (BindsTo.of_eq rfl) (locs rfl) ?_ rfl rfl rfl (by decide)
  intro L' h₁ fr₂ F' N' t' O' bk
  try dsimp only
  clear F N t O
  ktr_unf
  · unfold Hold
    rename (eqV _ _ = true) => he
    have hlt : find xs x < xs.length := by omega
    have hh : has xs x = true := by unfold has; rw [decide_eq_true hlt, he]; rfl
    (rename Fr h₀ L' _ _ => F1; rename News h₀ L' _ _ => N1)
    refine u_pop_at F1 N1 Cut.base hL (by with_reducible assumption) O' hz rfl hlt (fun h5 own5 n5 kp5 hm5 O5 F5 N5 => ?_)
    clear F1 N1
    ktr_unf
    acc_keep
    exact ⟨hh, rfl, kp5, n5, hm5⟩
  · rename (eqV _ _ = false) => he
    have hcond : has xs x = false := by unfold has; rw [he, Bool.and_false]
    unfold Hold
    refine Raise_new rfl ?_
    ktr_unf
    rename Heap.NewExc _ _ _ _ => hx5
    (rename Fr h₀ L' _ _ => F1; rename News h₀ L' _ _ => N1)
    refine leave_new rfl rfl rfl (by with_reducible assumption) (NewX.of hx5) F1 N1 O' fun h5 fr5 oe tb tvs vs t5 F5 N5 O5 hne hc hd h1 h3 w1 w2 => ?_
    refine bk.go F5 N5 Cut.b2 t5 O5 fun fr6 t6 F6 N6 O6 => ?_
    exact kE _ _ _ _ _ _ _ _ hcond t6 F6 N6 O6 hne hc hd h1 h3 w1 w2
  · have hcond : has xs x = false := by unfold has; rw [decide_eq_false (by omega), Bool.false_and]
    unfold Hold
    refine Raise_new rfl ?_
    ktr_unf
    rename Heap.NewExc _ _ _ _ => hx5
    (rename Fr h₀ L' _ _ => F1; rename News h₀ L' _ _ => N1)
    refine leave_new rfl rfl rfl (by with_reducible assumption) (NewX.of hx5) F1 N1 O' fun h5 fr5 oe tb tvs vs t5 F5 N5 O5 hne hc hd h1 h3 w1 w2 => ?_
    refine bk.go F5 N5 Cut.b2 t5 O5 fun fr6 t6 F6 N6 O6 => ?_
    exact kE _ _ _ _ _ _ _ _ hcond t6 F6 N6 O6 hne hc hd h1 h3 w1 w2
theorem c_delitem {w : World} {own : Led} {S D Ls : Addr} {xs : List Value} {i : Int} {j : Nat} {u : Tok} (h : SetAt own S D Ls xs) (hi : i = (j : Int)) (hj : j ≤ 1000) (hz : xs.length ≤ 1000) :
    ConX w 191 370 700 [.ref S, .int i u] own "IndexError" (fun v own' => j < xs.length ∧ v = .none ∧ Kp Ls own own' ∧ ∃ n, (Ls, listOf (xs.eraseIdx j).toArray n) ∈ own') (xs.length ≤ j) := by
  obtain ⟨hS, ⟨hsh, tk, hD⟩, ⟨n, hL⟩, hth, hn1, hn2, hn3⟩ := h
  intro prog A E Q s h₀ L m mg mb env outer fr₁ fr p loose mean hA hf hk F X T N t O k kE
  refine enter (K := Mine.hd.heap_39 w.params) (args := ⟨[.ref S, .int i u], []⟩) (binds := [("self", .ref S), ("i", .int i u)]) hA hf hk F X T N t O (by k_is) (by k_is) (by decide) (BindsTo.of_eq rfl) (locs rfl) ?_ rfl rfl rfl (by decide)
  intro L' h₁ fr₂ F' N' t' O' bk
  try dsimp only
  clear F N t O
  ktr_unf
  (rename Fr h₀ L' _ _ => F1; rename News h₀ L' _ _ => N1)
  refine del_led rfl F1 N1 Cut.base hL t' O' hz hi hj (fun hlt h5 own5 n5 kp5 hm5 O5 F5 N5 => ?_) fun hcond h5 tk5 e5 hx => ?_
  · clear F1 N1
    ktr_unf
    acc_keep
    exact ⟨hlt, rfl, kp5, n5, hm5⟩
  · dsimp only
    refine leave_new rfl rfl rfl t' (NewX.of hx) F1 N1 O' fun h5 fr5 oe tb tvs vs t5 F5 N5 O5 hne hc hd h1 h3 w1 w2 => ?_
    refine bk.go F5 N5 Cut.b2 t5 O5 fun fr6 t6 F6 N6 O6 => ?_
    exact kE _ _ _ _ _ _ _ _ hcond t6 F6 N6 O6 hne hc hd h1 h3 w1 w2
end
section
example : True := by w_top off; trivial
section
variable {prog : Program} {w : World} {A : Around} {E : Value → Shared → Prop} {Q : Value → Shared → Prop} {s : Shared} {K : Frag} {h₀ : Heap} {L f : Addr} {m mg mb : Str → Option Value} {env : Env} {outer : List Env} {own fr₁ fr : Led} {p : Program} {loose : List Str} {mean : ExcName → Option Value}
  {D U : Nat} {name qual : Str} {params : Arguments} {body : List Stmt} {scope : Scope} {dV kV doc pm cdv ct oc : Value} {an od : Option Addr} {osl : Array (Option Value)} {args : Args} {binds : List (Str × Value)}
/-- a def with captured names is called -/
theorem enterCell (hA : Fits A D U (env :: outer)) (hf : env.frame = some L) (hk : env.scope.kind = .function) (F : Fr h₀ L s.heap m) (X : K.In h₀) (T : Top p loose mean mg mb h₀) (N : News h₀ L s.heap (own ++ fr)) (t : Tl outer fr₁ fr) (O : Off own outer)
    (ho : K.lookup f = some ⟨oc, od, .func (fnOf name qual params body scope dV kV doc pm an cdv ct), osl⟩) (hcd : codeIn K cdv qual = true) (hroom : D < recursionLimit)
    (hbind : BindsTo s (fnOf name qual params body scope dV kV doc pm an cdv ct) args binds) (hkind : (binds.all fun y => scope.names.lookup y.1 == some .local || scope.names.lookup y.1 == some .cell) = true)
    (hnd : ((cellsFrom 0 scope.names []).map (·.1)).Nodup)
    (h : ∀ L' h₁ tk fr₂ cells, Fr h₀ L' h₁ (bindL (envOfC qual scope L' f cdv).kindOf binds fun _ => none) → News h₀ L' h₁ (cells ++ (own ++ fr₂)) → CellsAre (bindC (envOfC qual scope L' f cdv).kindOf binds fun _ => none) (cellsFrom (L' + 1) scope.names []) cells →
      Tl (env :: outer) fr₂ fr₂ → Off cells (env :: outer) → Off own (env :: outer) → (∀ p ∈ cells, New own p.1) → Bk h₀ L L' m env outer fr₁ fr₂ →
      wpAny (model prog w) (AC (D + 1) (U + 3) (envOfC qual scope L' f cdv :: env :: outer)) (execs body (envOfC qual scope L' f cdv))
        (fun fl s' => Q (match fl with | .ret v => v | _ => .none) s')
        (fun e s' => wpAny (model prog w) (AC (D + 1) (U + 3) (envOfC qual scope L' f cdv :: env :: outer)) («leaving» (envOfC qual scope L' f cdv) e) (fun _ s'' => E e s'') (fun e' s'' => E e' s'') s')
        { s with heap := h₁, toks := tk })
    (hco : scope.isCoroutine = false) (hgen : scope.isGenerator = false) (hks : scope.kind = .function) :
    wpAny (model prog w) A (call (.ref f) args.pos args.kw) Q E s := by
  refine wpAny_call (hA.code ?_)
  obtain ⟨oL, es, ep, hL, hLd, hLk, hLf⟩ := F.ns
  have X' := X.keeps F.keep
  refine codeAny_call_function (fd := fnOf name qual params body scope dV kV doc pm an cdv ct) (body := body) hroom (X' _ _ ho) rfl hco hgen rfl (codeRec_of X' hcd) (hbind _ _ _ _ ?_)
  refine wpAny_newFunctionEnv_cells hks (kindsX hkind _) fun env' he s' x => ?_
  subst he
  refine ⟨(T.nolimit.keeps F.keep).keeps x.toInCall.keep, codeAny_func ?_⟩
  obtain ⟨h₁, tk, rfl, _⟩ := x.done
  have hk₁ := x.toInCall.keep
  obtain ⟨cells, NC, Y⟩ := Cl.news (h₀ := s.heap) (Nat.le_refl _) fun n c hm => ⟨x.cell n c (lookup_of_mem_nodup (cellsFrom_names scope.names 0 (s.heap.objs.size + 1) [] [] rfl ▸ hnd) hm), x.above n c hm⟩
  have hLt := Heap.lt_size hL
  have hne : ∀ b, (s.heap.get? b).isSome = true → b ≠ s.heap.objs.size := fun b hb q => by
    rw [q, Heap.get?_none_of_le (Nat.le_refl _)] at hb; cases hb
  have hcn : ∀ p ∈ cells, ∀ b o, s.heap.get? b = some o → b ≠ p.1 := fun p hp b o hb q => by
    rw [q, (NC p hp).2.2] at hb; cases hb
  refine wpAny_mono (h s.heap.objs.size h₁ tk ((L, oL) :: fr) cells ⟨x.toInCall.ns, fun b o e => hk₁ b o (F.keep b o e), Nat.le_trans F.above (Nat.le_of_lt hLt)⟩ (fun q hq => ?_) Y (Tl.refl ⟨by rw [hk]; decide, hf, ⟨es, ep, hLd⟩, t.1⟩) (fun q hq hm => ?_) (fun q hq hm => ?_) (fun q hq r hr => hcn q hq _ _ (N r (List.mem_append_left _ hr)).1) (bk_of F N hL hf t)) (fun fl s' hq => hq) fun _ _ x => x
  · rcases List.mem_append.mp hq with hq | hq
    · refine ⟨(NC q hq).1, (NC q hq).2.1, ?_⟩
      cases e : h₀.get? q.1 with
      | none => rfl
      | some o => exact absurd rfl (hcn q hq _ _ (F.keep _ _ e))
    rcases List.mem_append.mp hq with hq | hq
    · obtain ⟨a, b, c⟩ := N q (List.mem_append_left _ hq)
      exact ⟨hk₁ _ _ a, hne _ (by rw [a]; rfl), c⟩
    · rcases List.mem_cons.mp hq with e | hq
      · rw [e]
        exact ⟨hk₁ _ _ hL, Nat.ne_of_lt hLt, Heap.get?_none_of_le F.above⟩
      · obtain ⟨a, b, c⟩ := N q (List.mem_append_right _ hq)
        exact ⟨hk₁ _ _ a, hne _ (by rw [a]; rfl), c⟩
  · rw [frs, List.filterMap_cons, hf] at hm
    rcases List.mem_cons.mp hm with e | hm
    · exact hcn q hq L oL hL e.symm
    · rw [show outer.filterMap (·.frame) = fr.map (·.1) from t.1.addrs] at hm
      obtain ⟨r, hr, e⟩ := List.mem_map.mp hm
      exact hcn q hq _ _ (N r (List.mem_append_right _ hr)).1 e
  · rw [frs, List.filterMap_cons, hf] at hm
    rcases List.mem_cons.mp hm with e | hm
    · exact (N q (List.mem_append_left _ hq)).2.1 e
    · exact O q hq hm
end
/-- two lists of things, compared -/
def eqL : List Value → List Value → Bool
  | [], [] => true
  | x :: xs, y :: ys => eqV x y && eqL xs ys
  | _, _ => false
theorem eqL_len : ∀ {xs ys : List Value}, xs.length ≠ ys.length → eqL xs ys = false
  | [], [], h => absurd rfl h
  | [], _ :: _, _ => rfl
  | _ :: _, [], _ => rfl
  | x :: xs, y :: ys, h => by
    unfold eqL
    rw [eqL_len (fun q => h (by rw [List.length_cons, List.length_cons, q])), Bool.and_false]
theorem eqL_all : ∀ {xs ys : List Value}, xs.length = ys.length → (List.range xs.length).all (fun j => eqV (xs.getD j .none) (ys.getD j .none)) = eqL xs ys
  | [], [], _ => rfl
  | [], _ :: _, h => by cases h
  | _ :: _, [], h => by cases h
  | x :: xs, y :: ys, h => by
    have ih := eqL_all (xs := xs) (ys := ys) (by simpa using h)
    rw [List.length_cons, List.range_succ_eq_map, List.all_cons, List.all_map]
    unfold eqL
    rw [← ih]
    rfl
theorem eqAt_lists {A : Around} {s : Shared} {h₀ : Heap} {L l b : Addr} {news own fr : Led} {xs ys : List Value} {n n2 : Nat} (N : News h₀ L s.heap news) (hc : Cut news own fr) (hl : (l, listOf xs.toArray n) ∈ own) (hb : (b, listOf ys.toArray n2) ∈ own) (hx : ∀ x ∈ xs, Th x) (hy : ∀ y ∈ ys, Th y) (hu : A.units < cLine) :
    PySem.SeqAt.RcAt A s (.ref l) (.ref b) (eqL xs ys) := by
  have i1 : s.heap.IsList l xs.toArray := ⟨_, (N _ (hc.mem hl)).1, rfl, _, rfl⟩
  have i2 : s.heap.IsList b ys.toArray := ⟨_, (N _ (hc.mem hb)).1, rfl, _, rfl⟩
  by_cases he : xs.length = ys.length
  · rw [← eqL_all he]
    have := PySem.SeqAt.RcAt.lists (A := A) (e := fun j => eqV (xs.getD j .none) (ys.getD j .none)) i1 i2 (by simpa using he) hu (fun j h1 h2 => ?_)
    · simpa using this
    · have h1' : j < xs.length := by simpa using h1
      have h2' : j < ys.length := by simpa using h2
      have e1 : xs.toArray[j] = xs.getD j .none := by simp [List.getD, h1']
      have e2 : ys.toArray[j] = ys.getD j .none := by simp [List.getD, h2']
      rw [e1, e2]
      exact th_eqAt (th_getD hx j) (th_getD hy j)
  · rw [eqL_len he]
    exact PySem.SeqAt.RcAt.lists_lengths i1 i2 (by simpa using he) hu
theorem neAt_lists {A : Around} {s : Shared} {h₀ : Heap} {L l b : Addr} {news own fr : Led} {xs ys : List Value} {n n2 : Nat} (N : News h₀ L s.heap news) (hc : Cut news own fr) (hl : (l, listOf xs.toArray n) ∈ own) (hb : (b, listOf ys.toArray n2) ∈ own) (hx : ∀ x ∈ xs, Th x) (hy : ∀ y ∈ ys, Th y) (hu : A.units < cLine) :
    PySem.SeqAt.RcNeAt A s (.ref l) (.ref b) (!eqL xs ys) := by
  have i1 : s.heap.IsList l xs.toArray := ⟨_, (N _ (hc.mem hl)).1, rfl, _, rfl⟩
  have i2 : s.heap.IsList b ys.toArray := ⟨_, (N _ (hc.mem hb)).1, rfl, _, rfl⟩
  by_cases he : xs.length = ys.length
  · rw [← eqL_all he]
    have := PySem.SeqAt.RcNeAt.lists (A := A) (e := fun j => eqV (xs.getD j .none) (ys.getD j .none)) i1 i2 (by simpa using he) hu (fun j h1 h2 => ?_)
    · simpa using this
    · have h1' : j < xs.length := by simpa using h1
      have h2' : j < ys.length := by simpa using h2
      have e1 : xs.toArray[j] = xs.getD j .none := by simp [List.getD, h1']
      have e2 : ys.toArray[j] = ys.getD j .none := by simp [List.getD, h2']
      rw [e1, e2]
      exact th_eqAt (th_getD hx j) (th_getD hy j)
  · rw [eqL_len he]
    exact PySem.SeqAt.RcNeAt.lists_lengths i1 i2 (by simpa using he) hu
section
variable {prog : Program} {w : World} {A : Around} {E : Value → Shared → Prop} {Q : Value → Shared → Prop} {s : Shared} {h₀ : Heap} {L l b : Addr} {news own fr : Led} {xs ys : List Value} {n n2 : Nat}
theorem eq_led (N : News h₀ L s.heap news) (hc : Cut news own fr) (hl : (l, listOf xs.toArray n) ∈ own) (hb : (b, listOf ys.toArray n2) ∈ own) (hx : ∀ x ∈ xs, Th x) (hy : ∀ y ∈ ys, Th y) (hu : A.units < cLine) (h : Q (.bool (eqL xs ys)) s) : wpAny (model prog w) A (compareOp .Eq (.ref l) (.ref b)) Q E s :=
  eqAt_lists N hc hl hb hx hy hu prog w E Q h
theorem ne_led (N : News h₀ L s.heap news) (hc : Cut news own fr) (hl : (l, listOf xs.toArray n) ∈ own) (hb : (b, listOf ys.toArray n2) ∈ own) (hx : ∀ x ∈ xs, Th x) (hy : ∀ y ∈ ys, Th y) (hu : A.units < cLine) (h : Q (.bool (!eqL xs ys)) s) : wpAny (model prog w) A (compareOp .NotEq (.ref l) (.ref b)) Q E s :=
  neAt_lists N hc hl hb hx hy hu prog w E Q h
end
end
local macro_rules | `(tactic| walk_at "compareOp Eq ref ref") => `(tactic| (k_here; (with_reducible show wpAny _ _ (compareOp _ (Value.ref _) (Value.ref _)) _ _ _); (refine' eq_led ?N ?c ?a ?b ?x ?y ?u ?_); (case N => k_asm); (case c => acc_binds); (case a => k_mem); (case b => k_mem); (case x => with_reducible assumption); (case y => with_reducible assumption); (case u => k_dflt (exact Nat.le_of_ble_eq_true rfl))))
local macro_rules | `(tactic| walk_at "compareOp NotEq ref ref") => `(tactic| (k_here; (with_reducible show wpAny _ _ (compareOp _ (Value.ref _) (Value.ref _)) _ _ _); (refine' ne_led ?N ?c ?a ?b ?x ?y ?u ?_); (case N => k_asm); (case c => acc_binds); (case a => k_mem); (case b => k_mem); (case x => with_reducible assumption); (case y => with_reducible assumption); (case u => k_dflt (exact Nat.le_of_ble_eq_true rfl))))
section
example : True := by w_top off; trivial
theorem c_eq {w : World} {own : Led} {S D Ls S' D' Lo : Addr} {xs ys : List Value} (h : SetAt own S D Ls xs) (h' : SetAt own S' D' Lo ys) (hx : xs.length ≤ 400) (hy : ys.length ≤ 400) :
    Con w 79 335 380 [.ref S, .ref S'] own (fun v own' => Kq own own' ∧ v = .bool (eqL xs ys)) := by
  obtain ⟨hS, ⟨hsh, tk, hD⟩, ⟨n, hL⟩, hth, hn1, hn2, hn3⟩ := id h
  obtain ⟨hSo, ⟨hsho, tko, hDo⟩, ⟨no, hLo⟩, htho, hno1, hno2, hno3⟩ := id h'
  intro prog A E Q s h₀ L m mg mb env outer fr₁ fr p loose mean hA hf hk F X T N t O k
  refine enterCell (K := Mine.hd.heap_39 w.params) (args := ⟨[.ref S, .ref S'], []⟩) (binds := [("self", .ref S), ("other", .ref S')]) hA hf hk F X T N t O (by k_is) (by k_is) (by decide) (BindsTo.of_eq rfl) rfl (by decide +kernel) ?_ rfl rfl rfl
  intro L' h₁ tk₁ fr₂ cells F' N' Y t' Oc O' nc bk
  refine PySem.wpAny_noRaise ?_
  obtain ⟨oc, rfl, dc⟩ := CellsAre.one Y
  have dc' : oc.data = .cell (some (.ref S)) := dc
  have N2 : News h₀ L' h₁ (((L' + 1, oc) :: own) ++ fr₂) := N'
  have O2 : Off ((L' + 1, oc) :: own) (env :: outer) := Off.cons (Oc _ (.head _)) O'
  have hC : (L' + 1, oc) ∈ (L' + 1, oc) :: own := .head _
  have kqC : Kq own ((L' + 1, oc) :: own) := Kq.cons
  have F2 : Fr h₀ L' h₁ (fun y => if y = ("other" : Str) then some (.ref S') else none) := F'
  generalize ((L' + 1, oc) :: own) = ownC at N2 O2 hC kqC
  clear N' Y nc Oc dc F N t O F' O'
  try dsimp only
  ktr_unf
  acc_keep
  exact ⟨kqC, rfl⟩
theorem c_ne {w : World} {own : Led} {S D Ls S' D' Lo : Addr} {xs ys : List Value} (h : SetAt own S D Ls xs) (h' : SetAt own S' D' Lo ys) (hx : xs.length ≤ 400) (hy : ys.length ≤ 400) :
    Con w 86 335 380 [.ref S, .ref S'] own (fun v own' => Kq own own' ∧ v = .bool (!eqL xs ys)) := by
  obtain ⟨hS, ⟨hsh, tk, hD⟩, ⟨n, hL⟩, hth, hn1, hn2, hn3⟩ := id h
  obtain ⟨hSo, ⟨hsho, tko, hDo⟩, ⟨no, hLo⟩, htho, hno1, hno2, hno3⟩ := id h'
  intro prog A E Q s h₀ L m mg mb env outer fr₁ fr p loose mean hA hf hk F X T N t O k
  refine enterCell (K := Mine.hd.heap_39 w.params) (args := ⟨[.ref S, .ref S'], []⟩) (binds := [("self", .ref S), ("other", .ref S')]) hA hf hk F X T N t O (by k_is) (by k_is) (by decide) (BindsTo.of_eq rfl) rfl (by decide +kernel) ?_ rfl rfl rfl
  intro L' h₁ tk₁ fr₂ cells F' N' Y t' Oc O' nc bk
  refine PySem.wpAny_noRaise ?_
  obtain ⟨oc, rfl, dc⟩ := CellsAre.one Y
  have dc' : oc.data = .cell (some (.ref S)) := dc
  have N2 : News h₀ L' h₁ (((L' + 1, oc) :: own) ++ fr₂) := N'
  have O2 : Off ((L' + 1, oc) :: own) (env :: outer) := Off.cons (Oc _ (.head _)) O'
  have hC : (L' + 1, oc) ∈ (L' + 1, oc) :: own := .head _
  have kqC : Kq own ((L' + 1, oc) :: own) := Kq.cons
  have F2 : Fr h₀ L' h₁ (fun y => if y = ("other" : Str) then some (.ref S') else none) := F'
  generalize ((L' + 1, oc) :: own) = ownC at N2 O2 hC kqC
  clear N' Y nc Oc dc F N t O F' O'
  try dsimp only
  ktr_unf
  acc_keep
  exact ⟨kqC, rfl⟩
end
section
example : True := by w_top off; trivial
/-- what makes k the place of x in xs -/
structure Pos (xs : List Value) (x : Value) (k : Nat) : Prop where
  le : k ≤ xs.length
  lt : ∀ i, i < xs.length → ltV (xs.getD i .none) x = some true → i < k
  ge : ∀ i, i < xs.length → ltV (xs.getD i .none) x = some false → k ≤ i
  ne : ∀ i, i < k → eqV (xs.getD i .none) x = false
  pre : ∀ i, i < k → ltV (xs.getD i .none) x = none → ∀ j, j < i → ltV (xs.getD j .none) x = none
  fin : k < xs.length → eqV (xs.getD k .none) x = true ∨ ltV (xs.getD k .none) x = some false ∨ ∃ j, j < k ∧ ltV (xs.getD j .none) x = some true
theorem bs_pos {xs : List Value} {x : Value} {k : Nat} (p : Pos xs x k) : ∀ (f lo hi : Nat), lo ≤ k → k ≤ hi → hi ≤ xs.length → hi - lo < f → bs xs x f lo hi = .inl k ∨ ∃ h, bs xs x f lo hi = .inr h ∧ k ≤ h ∧ h ≤ xs.length := by
  intro f
  induction f with
  | zero => intro lo hi _ _ _ h; exact absurd h (Nat.not_lt_zero _)
  | succ f ih =>
    intro lo hi h1 h2 h3 h4
    unfold bs
    by_cases hl : lo < hi
    · rw [if_pos hl]
      have hm : (lo + hi) / 2 < xs.length := by omega
      cases q : ltV (xs.getD ((lo + hi) / 2) .none) x with
      | none => exact .inr ⟨hi, rfl, h2, h3⟩
      | some r =>
        cases r with
        | true => exact ih _ _ (by have := p.lt _ hm q; omega) h2 h3 (by omega)
        | false => exact ih _ _ h1 (p.ge _ hm q) (by omega) (by omega)
    · rw [if_neg hl]
      exact .inl (by congr 1; omega)
theorem ls_pos {xs : List Value} {x : Value} {k : Nat} (p : Pos xs x k) : ∀ (f lo hi : Nat) (c : Bool), lo ≤ k → k ≤ hi → hi ≤ xs.length → hi - lo < f → (c = true ↔ ∃ j, j < lo ∧ ltV (xs.getD j .none) x = some true) → ls xs x f lo hi c = k := by
  intro f
  induction f with
  | zero => intro lo hi _ _ _ _ h; exact absurd h (Nat.not_lt_zero _)
  | succ f ih =>
    intro lo hi c h1 h2 h3 h4 hc
    unfold ls
    by_cases hl : lo < hi
    · rw [if_pos hl]
      rcases Nat.lt_or_ge lo k with hk | hk
      · rw [if_neg (by rw [p.ne lo hk]; decide)]
        cases q : ltV (xs.getD lo .none) x with
        | none =>
          have hcf : c = false := by
            cases c with
            | false => rfl
            | true =>
              obtain ⟨j, hj, hq⟩ := hc.mp rfl
              rw [p.pre lo hk q j hj] at hq
              cases hq
          subst hcf
          refine ih _ _ _ (by omega) h2 h3 (by omega) ⟨fun h => (by cases h), fun ⟨j, hj, hq⟩ => ?_⟩
          rcases Nat.lt_or_ge j lo with hj' | hj'
          · exact hc.mpr ⟨j, hj', hq⟩
          · have : j = lo := by omega
            subst this
            rw [q] at hq; cases hq
        | some r =>
          cases r with
          | true => exact ih _ _ _ (by omega) h2 h3 (by omega) ⟨fun _ => ⟨lo, by omega, q⟩, fun _ => rfl⟩
          | false => exact absurd (p.ge lo (by omega) q) (by omega)
      · have e : lo = k := by omega
        subst e
        by_cases he : eqV (xs.getD lo .none) x = true
        · rw [if_pos he]
        · rw [if_neg he]
          cases q : ltV (xs.getD lo .none) x with
          | none =>
            rcases p.fin (by omega) with h | h | ⟨j, hj, hq⟩
            · exact absurd h he
            · rw [q] at h; cases h
            · have : c = true := hc.mpr ⟨j, hj, hq⟩
              subst this
              rfl
          | some r =>
            cases r with
            | true => exact absurd (p.lt lo (by omega) q) (Nat.lt_irrefl _)
            | false => rfl
    · rw [if_neg hl]
      omega
theorem find_pos {xs : List Value} {x : Value} {k : Nat} (p : Pos xs x k) : find xs x = k := by
  unfold find
  rcases bs_pos p (xs.length + 1) 0 xs.length (Nat.zero_le _) p.le (Nat.le_refl _) (by omega) with h | ⟨hi, h, h1, h2⟩
  · rw [h]
  · rw [h]
    exact ls_pos p _ _ _ _ (Nat.zero_le _) h1 h2 (by omega) ⟨fun h => (by cases h), fun ⟨j, hj, _⟩ => absurd hj (Nat.not_lt_zero _)⟩
end
section
example : True := by w_top off; trivial
def kd : Value → Nat
  | .none => 0
  | .int .. => 1
  | .str .. => 2
  | .bytes .. => 3
  | _ => 4
/-- a stock of things, each thing once -/
structure Dom (d : List Value) : Prop where
  eq : ∀ x ∈ d, ∀ y ∈ d, eqV x y = true → x = y
  rfl' : ∀ x ∈ d, eqV x x = true
  kn : ∀ x ∈ d, ∀ y ∈ d, (ltV x y = none ↔ (kd x ≠ kd y ∨ kd x = 0))
  irr : ∀ x ∈ d, ltV x x ≠ some true
  tri : ∀ x ∈ d, ∀ y ∈ d, kd x = kd y → kd x ≠ 0 → x ≠ y → ltV x y ≠ some true → ltV y x = some true
  tr : ∀ x ∈ d, ∀ y ∈ d, ∀ z ∈ d, ltV x y = some true → ltV y z = some true → ltV x z = some true
  one : ∀ x ∈ d, ∀ y ∈ d, kd x = 0 → kd y = 0 → x = y
/-- a row of such things: kinds in blocks, in order within each -/
structure Good (d xs : List Value) : Prop where
  mem : ∀ x ∈ xs, x ∈ d
  pw : ∀ a b, [a, b].Sublist xs → kd a = kd b → ltV a b = some true
  ct : ∀ a b c, [a, b, c].Sublist xs → kd a = kd c → kd b = kd a
theorem Good.sub {d xs ys : List Value} (g : Good d ys) (h : xs.Sublist ys) : Good d xs :=
  ⟨fun x hx => g.mem x (h.subset hx), fun a b s => g.pw a b (s.trans h), fun a b c s => g.ct a b c (s.trans h)⟩
theorem Good.nil {d : List Value} : Good d [] := ⟨fun x hx => (by cases hx), fun a b s => (by cases s), fun a b c s => (by cases s)⟩

theorem tw (p : Value → Bool) : ∀ l : List Value, ∃ a b, l = a ++ b ∧ (∀ y ∈ a, p y = true) ∧ (b = [] ∨ ∃ h t, b = h :: t ∧ p h = false)
  | [] => ⟨[], [], rfl, fun y hy => (by cases hy), .inl rfl⟩
  | x :: l => by
    cases q : p x with
    | false => exact ⟨[], x :: l, rfl, fun y hy => (by cases hy), .inr ⟨x, l, rfl, q⟩⟩
    | true =>
      obtain ⟨a, b, e, h1, h2⟩ := tw p l
      refine ⟨x :: a, b, by rw [e]; rfl, fun y hy => ?_, h2⟩
      rcases List.mem_cons.mp hy with rfl | hy
      · exact q
      · exact h1 y hy
theorem sub1 {a : Value} {l : List Value} (h : a ∈ l) : [a].Sublist l := List.singleton_sublist.mpr h
theorem sub2 {a b : Value} {l m : List Value} (h : a ∈ l) (k : b ∈ m) : [a, b].Sublist (l ++ m) := (sub1 h).append (sub1 k)
theorem sub3 {a b c : Value} {l m r : List Value} (h : a ∈ l) (k : b ∈ m) (j : c ∈ r) : [a, b, c].Sublist (l ++ (m ++ r)) := (sub1 h).append (sub2 k j)

structure Split (xs : List Value) (x : Value) (P B1 B2 R : List Value) : Prop where
  eq : xs = (P ++ B1) ++ (B2 ++ R)
  hP : ∀ y ∈ P, kd y ≠ kd x
  h1 : ∀ y ∈ B1, ltV y x = some true
  h2 : ∀ y ∈ B2, kd y = kd x ∧ ltV y x ≠ some true
  hR : ∀ y ∈ R, kd y ≠ kd x
  none : B1 = [] → B2 = [] → R = []
theorem Good.split {d xs : List Value} (D : Dom d) (g : Good d xs) {x : Value} (hx : x ∈ d) : ∃ P B1 B2 R, Split xs x P B1 B2 R := by
  obtain ⟨P, rest, e1, hP, hrest⟩ := tw (fun y => decide (kd y ≠ kd x)) xs
  obtain ⟨B, R, e2, hB, hR⟩ := tw (fun y => decide (kd y = kd x)) rest
  obtain ⟨B1, B2, e3, h1, h2⟩ := tw (fun y => ltV y x == some true) B
  subst e3 e2
  have hB' : ∀ y ∈ B1 ++ B2, kd y = kd x := fun y hy => by simpa using hB y hy
  have hBn : B1 ++ B2 = [] → R = [] := fun h => by
    rw [h] at hrest
    rcases hR with hR | ⟨r, t, hR, hr⟩
    · exact hR
    · rw [hR] at hrest
      rcases hrest with hh | ⟨h', t', hh, hk⟩
      · cases hh
      · obtain ⟨rfl, rfl⟩ := List.cons.inj hh
        simp at hr hk
        exact absurd hk hr
  have hRall : ∀ y ∈ R, kd y ≠ kd x := fun y hy hk => by
    rcases hR with hR | ⟨r, t, hR, hr⟩
    · rw [hR] at hy; cases hy
    · have hr' : kd r ≠ kd x := by simpa using hr
      rw [hR] at hy
      rcases List.mem_cons.mp hy with rfl | hy
      · exact hr' hk
      · cases hbb : B1 ++ B2 with
        | nil => rw [hBn hbb] at hR; cases hR
        | cons b bs =>
          have hb : b ∈ B1 ++ B2 := by rw [hbb]; exact .head _
          have s : [b, r, y].Sublist xs := by
            rw [e1, hR]
            exact ((sub3 (l := B1 ++ B2) (m := [r]) (r := t) hb (.head _) hy).trans (by simp)).trans (List.sublist_append_right _ _)
          have := g.ct b r y s ((hB' b hb).trans hk.symm)
          exact hr' (this.trans (hB' b hb))
  refine ⟨P, B1, B2, R, ⟨by rw [e1]; simp, fun y hy => by simpa using hP y hy, fun y hy => by simpa using h1 y hy, fun y hy => ⟨hB' y (List.mem_append_right _ hy), fun hl => ?_⟩, hRall, fun a b => hBn (by rw [a, b]; rfl)⟩⟩
  rcases h2 with h2 | ⟨h, t, h2, hh⟩
  · rw [h2] at hy; cases hy
  · have hh' : ltV h x ≠ some true := by simpa using hh
    rw [h2] at hy
    have hhm : h ∈ B1 ++ B2 := by rw [h2]; exact List.mem_append_right _ (.head _)
    rcases List.mem_cons.mp hy with rfl | hy'
    · exact hh' hl
    · have hym : y ∈ B1 ++ B2 := by rw [h2]; exact List.mem_append_right _ (.tail _ hy')
      have s : [h, y].Sublist xs := by
        rw [e1, h2]
        have s1 : [h, y].Sublist ([h] ++ t) := sub2 (.head _) hy'
        exact (((s1.trans (List.sublist_append_right B1 _)).trans (List.sublist_append_left _ R))).trans (List.sublist_append_right _ _)
      have hlt := g.pw h y s ((hB' h hhm).trans (hB' y hym).symm)
      have mh : h ∈ d := g.mem h (s.subset (.head _))
      have my : y ∈ d := g.mem y (s.subset (.tail _ (.head _)))
      exact hh' (D.tr h mh y my x hx hlt hl)

theorem getD_mem {l : List Value} {i : Nat} (h : i < l.length) : l.getD i .none ∈ l := by
  rw [List.getD_eq_getElem?_getD, List.getElem?_eq_getElem h]
  exact List.getElem_mem h
theorem getD_left {a b : List Value} {i : Nat} (h : i < a.length) : (a ++ b).getD i .none = a.getD i .none := by
  rw [List.getD_eq_getElem?_getD, List.getD_eq_getElem?_getD, List.getElem?_append_left h]
theorem getD_right {a b : List Value} {i : Nat} (h : a.length ≤ i) : (a ++ b).getD i .none = b.getD (i - a.length) .none := by
  rw [List.getD_eq_getElem?_getD, List.getD_eq_getElem?_getD, List.getElem?_append_right h]
end
section
example : True := by w_top off; trivial
section
variable {d xs P B1 B2 R : List Value} {x : Value}
theorem Split.pos (D : Dom d) (g : Good d xs) (hx : x ∈ d) (s : Split xs x P B1 B2 R) : Pos xs x (P ++ B1).length := by
  have md : ∀ y ∈ (P ++ B1) ++ (B2 ++ R), y ∈ d := fun y hy => g.mem y (by rw [s.eq]; exact hy)
  have kP : ∀ y ∈ P, ltV y x = Option.none := fun y hy => (D.kn y (md y (by simp [hy])) x hx).mpr (.inl (s.hP y hy))
  have kR : ∀ y ∈ R, ltV y x = Option.none := fun y hy => (D.kn y (md y (by simp [hy])) x hx).mpr (.inl (s.hR y hy))
  have inA : ∀ i, i < (P ++ B1).length → xs.getD i .none ∈ P ++ B1 := fun i hi => by rw [s.eq, getD_left hi]; exact getD_mem hi
  have inC : ∀ i, i < xs.length → (P ++ B1).length ≤ i → xs.getD i .none ∈ B2 ++ R := fun i hi hk => by
    rw [s.eq] at hi ⊢
    rw [getD_right hk]
    refine getD_mem ?_
    rw [List.length_append] at hi
    omega
  refine ⟨by rw [s.eq, List.length_append (as := P ++ B1)]; omega, fun i hi hl => ?_, fun i hi hl => ?_, fun i hi => ?_, fun i hi hl j hj => ?_, fun hk => ?_⟩
  · rcases Nat.lt_or_ge i (P ++ B1).length with h | h
    · exact h
    · rcases List.mem_append.mp (inC i hi h) with hm | hm
      · exact absurd hl (s.h2 _ hm).2
      · rw [kR _ hm] at hl; cases hl
  · rcases Nat.lt_or_ge i (P ++ B1).length with h | h
    · rcases List.mem_append.mp (inA i h) with hm | hm
      · rw [kP _ hm] at hl; cases hl
      · rw [s.h1 _ hm] at hl; cases hl
    · exact h
  · have hm' := inA i hi
    cases q : eqV (xs.getD i .none) x with
    | false => rfl
    | true =>
      have e := D.eq _ (md _ (List.mem_append_left _ hm')) x hx q
      rcases List.mem_append.mp hm' with hm | hm
      · exact absurd (by rw [e]) (s.hP _ hm)
      · have := s.h1 _ hm
        rw [e] at this
        exact absurd this (D.irr x hx)
  · have hiP : i < P.length := by
      rcases Nat.lt_or_ge i P.length with h | h
      · exact h
      · have : xs.getD i .none ∈ B1 := by
          rw [s.eq, getD_left hi, getD_right h]
          refine getD_mem ?_
          rw [List.length_append] at hi
          omega
        rw [s.h1 _ this] at hl; cases hl
    have : xs.getD j .none ∈ P := by
      rw [s.eq, getD_left (by omega), getD_left (by omega)]
      exact getD_mem (by omega)
    exact kP _ this
  · have hget : xs.getD (P ++ B1).length .none = (B2 ++ R).getD 0 .none := by
      conv => lhs; rw [s.eq]
      rw [getD_right (Nat.le_refl _), Nat.sub_self]
    rw [hget]
    cases hB : B2 with
    | cons b t =>
      have hbm : b ∈ B2 := by rw [hB]; exact .head _
      have hb := s.h2 b hbm
      have hbd := md b (by simp [hbm])
      show eqV b x = true ∨ ltV b x = some false ∨ _
      by_cases hz : kd b = 0
      · have : b = x := D.one b hbd x hx hz (hb.1 ▸ hz)
        rw [this]
        exact .inl (D.rfl' x hx)
      · right; left
        cases q : ltV b x with
        | none => exact absurd ((D.kn b hbd x hx).mp q) (by rintro (h | h); exact h hb.1; exact hz h)
        | some r =>
          cases r with
          | true => exact absurd q hb.2
          | false => rfl
    | nil =>
      right; right
      cases hB1 : B1 with
      | nil =>
        have hR := s.none hB1 hB
        have hl := congrArg List.length s.eq
        rw [hB, hR] at hl
        simp at hl
        rw [List.length_append] at hk
        omega
      | cons b t =>
        have hbm : b ∈ B1 := by rw [hB1]; exact .head _
        refine ⟨P.length, by simp, ?_⟩
        have : xs.getD P.length .none = b := by
          conv => lhs; rw [s.eq]
          rw [getD_left (by rw [hB1]; simp), getD_right (Nat.le_refl _), Nat.sub_self, hB1]
          rfl
        rw [this]
        exact s.h1 b hbm
theorem Split.head (D : Dom d) (g : Good d xs) (hx : x ∈ d) (s : Split xs x P B1 B2 R) : has xs x = true ↔ x ∈ xs := by
  have hf := find_pos (s.pos D g hx)
  have md : ∀ y ∈ (P ++ B1) ++ (B2 ++ R), y ∈ d := fun y hy => g.mem y (by rw [s.eq]; exact hy)
  have hget : xs.getD (P ++ B1).length .none = (B2 ++ R).getD 0 .none := by
    conv => lhs; rw [s.eq]
    rw [getD_right (Nat.le_refl _), Nat.sub_self]
  have hlen : xs.length = (P ++ B1).length + (B2 ++ R).length := by
    conv => lhs; rw [s.eq]
    rw [List.length_append]
  unfold has
  rw [hf, hget]
  constructor
  · intro h
    rw [Bool.and_eq_true, decide_eq_true_eq] at h
    have h0 : 0 < (B2 ++ R).length := by omega
    have hm := getD_mem h0
    have := D.eq _ (md _ (List.mem_append_right _ hm)) x hx h.2
    rw [this] at hm
    rw [s.eq]
    exact List.mem_append_right _ hm
  · intro h
    have hB2 : x ∈ B2 := by
      rw [s.eq] at h
      rcases List.mem_append.mp h with h | h
      · rcases List.mem_append.mp h with h | h
        · exact absurd rfl (s.hP x h)
        · exact absurd (s.h1 x h) (D.irr x hx)
      · rcases List.mem_append.mp h with h | h
        · exact h
        · exact absurd rfl (s.hR x h)
    cases hB : B2 with
    | nil => rw [hB] at hB2; cases hB2
    | cons b t =>
      have e : b = x := by
        rw [hB] at hB2
        rcases List.mem_cons.mp hB2 with h | h
        · exact h.symm
        · have hb := s.h2 b (by rw [hB]; exact .head _)
          have sl : [b, x].Sublist xs := by
            rw [s.eq, hB]
            have s1 : [b, x].Sublist ([b] ++ t) := sub2 (.head _) h
            exact (s1.trans (List.sublist_append_left _ R)).trans (List.sublist_append_right _ _)
          exact absurd (g.pw b x sl hb.1) hb.2
      rw [Bool.and_eq_true, decide_eq_true_eq]
      refine ⟨by rw [hlen, hB]; simp, ?_⟩
      show eqV b x = true
      rw [e]
      exact D.rfl' x hx
theorem Split.ins (D : Dom d) (g : Good d xs) (hx : x ∈ d) (s : Split xs x P B1 B2 R) : ins xs x = if x ∈ xs then xs else (P ++ B1) ++ x :: (B2 ++ R) := by
  have hf := find_pos (s.pos D g hx)
  have hh := s.head D g hx
  have hlen : xs.length = (P ++ B1).length + (B2 ++ R).length := by
    conv => lhs; rw [s.eq]
    rw [List.length_append]
  unfold has at hh
  rw [hf] at hh
  unfold Mine.ins
  rw [hf]
  by_cases hlt : (P ++ B1).length < xs.length
  · rw [if_pos hlt]
    rw [decide_eq_true hlt, Bool.true_and] at hh
    by_cases hm : x ∈ xs
    · rw [if_pos (hh.mpr hm), if_pos hm]
    · rw [if_neg (fun q => hm (hh.mp q)), if_neg hm]
      unfold insAt
      conv => lhs; rw [s.eq]
      rw [List.take_left, List.drop_left]
  · rw [if_neg hlt]
    have h0 : B2 ++ R = [] := List.eq_nil_of_length_eq_zero (by omega)
    have hm : x ∉ xs := fun q => by
      rw [decide_eq_false hlt, Bool.false_and] at hh
      exact absurd (hh.mpr q) (by decide)
    rw [if_neg hm, h0]
    conv => lhs; rw [s.eq, h0]
    rw [List.append_nil]
end
end
section
example : True := by w_top off; trivial
theorem sub_mid {l A C : List Value} {x : Value} (h : l.Sublist (A ++ x :: C)) : l.Sublist (A ++ C) ∨ ∃ l1 l2, l = l1 ++ x :: l2 ∧ l1.Sublist A ∧ l2.Sublist C := by
  obtain ⟨l1, l2, rfl, h1, h2⟩ := List.sublist_append_iff.mp h
  rcases List.sublist_cons_iff.mp h2 with h3 | ⟨r, rfl, h3⟩
  · exact .inl (h1.append h3)
  · exact .inr ⟨l1, r, rfl, h1, h3⟩
theorem kd_of_lt {d : List Value} (D : Dom d) {y x : Value} (hy : y ∈ d) (hx : x ∈ d) {b : Bool} (h : ltV y x = some b) : kd y = kd x ∧ kd y ≠ 0 := by
  have hn : ¬ (kd y ≠ kd x ∨ kd y = 0) := fun q => by
    have := (D.kn y hy x hx).mpr q
    rw [h] at this; cases this
  exact ⟨Decidable.byContradiction fun q => hn (.inl q), fun q => hn (.inr q)⟩
section
variable {d xs P B1 B2 R : List Value} {x : Value}
theorem Split.good (D : Dom d) (g : Good d xs) (hx : x ∈ d) (s : Split xs x P B1 B2 R) (hm : x ∉ xs) : Good d ((P ++ B1) ++ x :: (B2 ++ R)) := by
  have md : ∀ y ∈ (P ++ B1) ++ (B2 ++ R), y ∈ d := fun y hy => g.mem y (by rw [s.eq]; exact hy)
  have kB1 : ∀ y ∈ B1, kd y = kd x := fun y hy => (kd_of_lt D (md y (by simp [hy])) hx (s.h1 y hy)).1
  have inB1 : ∀ a, a ∈ P ++ B1 → kd a = kd x → a ∈ B1 := fun a ha hk => (List.mem_append.mp ha).elim (fun h => absurd hk (s.hP a h)) id
  have inB2 : ∀ a, a ∈ B2 ++ R → kd a = kd x → a ∈ B2 := fun a ha hk => (List.mem_append.mp ha).elim id fun h => absurd hk (s.hR a h)
  refine ⟨fun y hy => ?_, fun a b h hk => ?_, fun a b c h hk => ?_⟩
  · rcases List.mem_append.mp hy with h | h
    · exact md y (List.mem_append_left _ h)
    · rcases List.mem_cons.mp h with rfl | h
      · exact hx
      · exact md y (List.mem_append_right _ h)
  · rcases sub_mid h with h | ⟨l1, l2, e, h1, h2⟩
    · exact g.pw a b (by rw [s.eq]; exact h) hk
    · match l1, e, h1 with
      | [], e, h1 =>
        obtain ⟨rfl, rfl⟩ := List.cons.inj e
        have hb : b ∈ B2 := inB2 b (h2.subset (.head _)) hk.symm
        have hbd := md b (by simp [hb])
        have hne : b ≠ a := fun q => hm (by rw [s.eq, ← q]; simp [hb])
        exact D.tri b hbd a hx hk.symm (fun hz => hne (D.one b hbd a hx hz (hk ▸ hz))) hne (s.h2 b hb).2
      | [a'], e, h1 =>
        obtain ⟨rfl, e2⟩ := List.cons.inj e
        obtain ⟨rfl, rfl⟩ := List.cons.inj e2
        exact s.h1 a (inB1 a (h1.subset (.head _)) hk)
      | a' :: b' :: l, e, h1 =>
        have := congrArg List.length e
        simp at this
  · rcases sub_mid h with h | ⟨l1, l2, e, h1, h2⟩
    · exact g.ct a b c (by rw [s.eq]; exact h) hk
    · match l1, e, h1 with
      | [], e, h1 =>
        obtain ⟨rfl, rfl⟩ := List.cons.inj e
        have hc : kd c = kd a := hk.symm
        obtain ⟨m1, m2, em, k1, k2⟩ := List.sublist_append_iff.mp h2
        match m2, em, k2 with
        | [], em, k2 =>
          rw [List.append_nil] at em
          exact (s.h2 b (k1.subset (by rw [← em]; exact .head _))).1
        | z :: zs, em, k2 =>
          have hcz : c ∈ z :: zs := by
            have e3 : (m1 ++ z :: zs).getLast? = some c := by rw [← em]; rfl
            rw [List.getLast?_append] at e3
            have e4 : (z :: zs).getLast? = some ((z :: zs).getLast (by simp)) := List.getLast?_eq_some_getLast (by simp)
            rw [e4] at e3
            simp at e3
            rw [← e3]
            exact List.getLast_mem _
          exact absurd hc (s.hR c (k2.subset hcz))
      | [a'], e, h1 =>
        obtain ⟨rfl, e2⟩ := List.cons.inj e
        obtain ⟨rfl, rfl⟩ := List.cons.inj e2
        have ha := h1.subset (List.Mem.head _)
        have hc := h2.subset (List.Mem.head _)
        rcases List.mem_append.mp ha with haP | haB
        · rcases List.mem_append.mp hc with hcB | hcR
          · exact ((hk.trans (s.h2 c hcB).1)).symm
          · have hmid : ∃ y, (y ∈ B1 ∨ y ∈ B2) := by
              cases h3 : B1 with
              | cons y t => exact ⟨y, .inl (.head _)⟩
              | nil =>
                cases h4 : B2 with
                | cons y t => exact ⟨y, .inr (.head _)⟩
                | nil => rw [s.none h3 h4] at hcR; cases hcR
            obtain ⟨y, hy⟩ := hmid
            have hky : kd y = kd b := hy.elim (kB1 y) fun h => (s.h2 y h).1
            have hsub : [a, y, c].Sublist xs := by
              rw [s.eq]
              rcases hy with hy | hy
              · have := sub3 haP hy (List.mem_append_right B2 hcR)
                rw [List.append_assoc]
                exact this
              · have := sub3 (List.mem_append_left B1 haP) hy hcR
                exact this
            exact hky ▸ g.ct a y c hsub hk
        · exact (kB1 a haB).symm
      | [a', b'], e, h1 =>
        obtain ⟨rfl, e2⟩ := List.cons.inj e
        obtain ⟨rfl, e3⟩ := List.cons.inj e2
        obtain ⟨rfl, rfl⟩ := List.cons.inj e3
        obtain ⟨m1, m2, em, k1, k2⟩ := List.sublist_append_iff.mp h1
        match m1, em, k1 with
        | [], em, k1 =>
          have : b ∈ B1 := k2.subset (by rw [List.nil_append] at em; rw [← em]; exact .tail _ (.head _))
          exact (kB1 b this).trans hk.symm
        | z :: zs, em, k1 =>
          obtain ⟨rfl, _⟩ := List.cons.inj em
          exact absurd hk (s.hP a (k1.subset (.head _)))
      | a' :: b' :: c' :: l, e, h1 =>
        have := congrArg List.length e
        simp at this
end
theorem good_ins {d xs : List Value} {x : Value} (D : Dom d) (g : Good d xs) (hx : x ∈ d) : Good d (ins xs x) := by
  obtain ⟨P, B1, B2, R, s⟩ := g.split D hx
  rw [s.ins D g hx]
  by_cases hm : x ∈ xs
  · rw [if_pos hm]; exact g
  · rw [if_neg hm]; exact s.good D g hx hm
theorem has_iff {d xs : List Value} {x : Value} (D : Dom d) (g : Good d xs) (hx : x ∈ d) : has xs x = true ↔ x ∈ xs := by
  obtain ⟨P, B1, B2, R, s⟩ := g.split D hx
  exact s.head D g hx
theorem ins_snoc {d xs : List Value} {x : Value} (D : Dom d) (g : Good d (xs ++ [x])) : ins xs x = xs ++ [x] := by
  have g' : Good d xs := g.sub (List.sublist_append_left _ _)
  have hx : x ∈ d := g.mem x (by simp)
  have hm : x ∉ xs := fun h => absurd (g.pw x x (sub2 h (.head _)) rfl) (D.irr x hx)
  obtain ⟨P, B1, B2, R, s⟩ := g'.split D hx
  rw [s.ins D g' hx, if_neg hm]
  have hB2 : B2 = [] := by
    cases h : B2 with
    | nil => rfl
    | cons y t =>
      have hy : y ∈ B2 := by rw [h]; exact .head _
      have := g.pw y x (sub2 (by rw [s.eq]; simp [hy]) (.head _)) (s.h2 y hy).1
      exact absurd this (s.h2 y hy).2
  have hR : R = [] := by
    cases h : R with
    | nil => rfl
    | cons r t =>
      have hr : r ∈ R := by rw [h]; exact .head _
      cases h1 : B1 with
      | nil => have := s.none h1 hB2; rw [h] at this; cases this
      | cons y t' =>
        have hy : y ∈ B1 := by rw [h1]; exact .head _
        have hyd : y ∈ d := g'.mem y (by rw [s.eq]; simp [hy])
        have hk := (kd_of_lt D hyd hx (s.h1 y hy)).1
        have hsub : [y, r, x].Sublist (xs ++ [x]) := by
          have h5 : [y, r].Sublist xs := by
            rw [s.eq, hB2]
            exact sub2 (List.mem_append_right _ hy) hr
          exact h5.append (List.Sublist.refl [x])
        exact absurd ((g.ct y r x hsub hk).trans hk) (s.hR r hr)
  conv => rhs; rw [s.eq]
  rw [hB2, hR]
  simp
theorem mk_take {d : List Value} (D : Dom d) (xs : List Value) (g : Good d xs) : ∀ n, mk (xs.take n) = xs.take n := by
  intro n
  induction n with
  | zero => rfl
  | succ n ih =>
    cases q : xs[n]? with
    | none =>
      have : xs.take (n + 1) = xs.take n := by
        rw [List.take_succ, q]; simp
      rw [this, ih]
    | some x =>
      have e : xs.take (n + 1) = xs.take n ++ [x] := take_snoc q
      rw [e, mk_snoc, ih]
      exact ins_snoc D (e ▸ g.sub (List.take_sublist _ _))
theorem mk_good {d : List Value} (D : Dom d) (xs : List Value) (g : Good d xs) : mk xs = xs := by
  have := mk_take D xs g xs.length
  rwa [List.take_length] at this
theorem mk_filter {d xs : List Value} (D : Dom d) (g : Good d xs) (e : Value → Bool) : mk (xs.filter e) = xs.filter e := mk_good D _ (g.sub List.filter_sublist)
end
section
example : True := by w_top off; trivial
def anyV (ys : List Value) (x : Value) : Bool := ys.any fun y => eqV y x
def alike (row : List Value) (x : Value) : List Nat := (List.range row.length).filter fun k => kd (row.getD k .none) == kd x
def below (row : List Value) (x : Value) : List Nat := (alike row x).filter fun k => ltV (row.getD k .none) x == some true
def place (row : List Value) (x : Value) : Nat := match alike row x with
  | [] => row.length
  | k :: _ => k + (below row x).length
def putOne (row : List Value) (x : Value) : List Value := if anyV row x then row else row.take (place row x) ++ [x] ++ row.drop (place row x)
def put (row things : List Value) : List Value := things.foldl putOne row
def only (row things : List Value) (there : Bool) : List Value := row.filter fun x => anyV things x == there
theorem any_iff {d ys : List Value} {x : Value} (D : Dom d) (hy : ∀ y ∈ ys, y ∈ d) (hx : x ∈ d) : anyV ys x = true ↔ x ∈ ys := by
  unfold anyV
  rw [List.any_eq_true]
  constructor
  · rintro ⟨y, h, e⟩
    exact D.eq y (hy y h) x hx e ▸ h
  · intro h
    exact ⟨x, h, D.rfl' x hx⟩
theorem range_filter (f : Value → Bool) : ∀ xs : List Value, ((List.range xs.length).filter fun k => f (xs.getD k .none)).length = (xs.filter f).length
  | [] => rfl
  | x :: xs => by
    have ih := range_filter f xs
    rw [List.length_cons, List.range_succ_eq_map, List.filter_cons, List.filter_map, List.filter_cons]
    have e : ((fun k => f ((x :: xs).getD k .none)) ∘ Nat.succ) = fun k => f (xs.getD k .none) := rfl
    show (if f x = true then _ else _ : List Nat).length = (if f x = true then _ else _ : List Value).length
    rw [e]
    split
    · rw [List.length_cons, List.length_cons, List.length_map, ih]
    · rw [List.length_map, ih]
theorem filter_none {α : Type} {p : α → Bool} {l : List α} (h : ∀ a ∈ l, p a = false) : l.filter p = [] := List.filter_eq_nil_iff.mpr fun a ha q => by rw [h a ha] at q; cases q
theorem filter_all {α : Type} {p : α → Bool} {l : List α} (h : ∀ a ∈ l, p a = true) : l.filter p = l := List.filter_eq_self.mpr h
section
variable {d xs P B1 B2 R : List Value} {x : Value}
theorem Split.below (D : Dom d) (g : Good d xs) (hx : x ∈ d) (s : Split xs x P B1 B2 R) : (below xs x).length = B1.length := by
  have md : ∀ y ∈ (P ++ B1) ++ (B2 ++ R), y ∈ d := fun y hy => g.mem y (by rw [s.eq]; exact hy)
  have e : Mine.below xs x = (List.range xs.length).filter fun k => ltV (xs.getD k .none) x == some true := by
    unfold Mine.below alike
    rw [List.filter_filter]
    refine List.filter_congr fun k hk => ?_
    have hk' : k < xs.length := List.mem_range.mp hk
    have hm := g.mem _ (getD_mem hk')
    cases q : (ltV (xs.getD k .none) x == some true) with
    | false => rfl
    | true =>
      rw [(kd_of_lt D hm hx (by simpa using q)).1]
      simp
  rw [e, range_filter (fun y => ltV y x == some true)]
  congr 1
  conv => lhs; rw [s.eq]
  rw [List.filter_append, List.filter_append, List.filter_append]
  rw [filter_none (l := P), filter_all (l := B1), filter_none (l := B2), filter_none (l := R)]
  · simp
  · intro y hy
    rw [(D.kn y (md y (by simp [hy])) x hx).mpr (.inl (s.hR y hy))]; rfl
  · intro y hy
    have := (s.h2 y hy).2
    cases q : (ltV y x == some true) with
    | false => rfl
    | true => exact absurd (by simpa using q) this
  · intro y hy
    rw [s.h1 y hy]; rfl
  · intro y hy
    rw [(D.kn y (md y (by simp [hy])) x hx).mpr (.inl (s.hP y hy))]; rfl
theorem Split.alike (D : Dom d) (g : Good d xs) (hx : x ∈ d) (s : Split xs x P B1 B2 R) : place xs x = (P ++ B1).length := by
  have md : ∀ y ∈ (P ++ B1) ++ (B2 ++ R), y ∈ d := fun y hy => g.mem y (by rw [s.eq]; exact hy)
  have kB1 : ∀ y ∈ B1, kd y = kd x := fun y hy => (kd_of_lt D (md y (by simp [hy])) hx (s.h1 y hy)).1
  have hb := s.below D g hx
  have exs : xs = P ++ ((B1 ++ B2) ++ R) := by rw [s.eq]; simp
  have hlen : xs.length = P.length + ((B1 ++ B2) ++ R).length := by conv => lhs; rw [exs, List.length_append]
  have hal : Mine.alike xs x = (((List.range ((B1 ++ B2) ++ R).length).map (P.length + ·)).filter fun k => kd (xs.getD k .none) == kd x) := by
    unfold Mine.alike
    rw [hlen, List.range_add, List.filter_append, filter_none, List.nil_append]
    intro k hk
    have hk' := List.mem_range.mp hk
    have : xs.getD k .none ∈ P := by
      rw [exs, getD_left hk']; exact getD_mem hk'
    have := s.hP _ this
    simpa using this
  unfold place
  cases hB : B1 ++ B2 with
  | nil =>
    obtain ⟨h1, h2⟩ := List.append_eq_nil_iff.mp hB
    have hR := s.none h1 h2
    rw [hal, hB, hR]
    show xs.length = _
    rw [hlen, hB, hR, h1]
    simp
  | cons b t =>
    have hb0 : xs.getD (P.length + 0) .none = b := by
      conv => lhs; rw [exs]
      rw [getD_right (by omega), hB]
      simp
    have hkb : kd b = kd x := by
      have : b ∈ B1 ++ B2 := by rw [hB]; exact .head _
      rcases List.mem_append.mp this with h | h
      · exact kB1 b h
      · exact (s.h2 b h).1
    have : ∃ r, Mine.alike xs x = P.length :: r := by
      rw [hal, hB, List.cons_append, List.length_cons, List.range_succ_eq_map, List.map_cons, List.filter_cons]
      rw [if_pos (by rw [hb0, hkb]; simp)]
      exact ⟨_, rfl⟩
    obtain ⟨r, hr⟩ := this
    rw [hr]
    show P.length + (Mine.below xs x).length = _
    rw [hb, List.length_append]
end
theorem putOne_ins {d xs : List Value} {x : Value} (D : Dom d) (g : Good d xs) (hx : x ∈ d) : putOne xs x = ins xs x := by
  obtain ⟨P, B1, B2, R, s⟩ := g.split D hx
  rw [s.ins D g hx]
  unfold putOne
  by_cases hm : x ∈ xs
  · rw [if_pos ((any_iff D g.mem hx).mpr hm), if_pos hm]
  · rw [if_neg fun q => hm ((any_iff D g.mem hx).mp q), if_neg hm, s.alike D g hx]
    have e1 : xs.take (P ++ B1).length = P ++ B1 := by rw [s.eq]; exact List.take_left
    have e2 : xs.drop (P ++ B1).length = B2 ++ R := by rw [s.eq]; exact List.drop_left
    rw [e1, e2]
    simp
theorem add_good {d : List Value} (D : Dom d) : ∀ (ys xs : List Value), Good d xs → (∀ y ∈ ys, y ∈ d) → Good d (add xs ys) ∧ put xs ys = add xs ys
  | [], xs, g, _ => ⟨g, rfl⟩
  | y :: ys, xs, g, h => by
    have hy := h y (.head _)
    have := add_good D ys (ins xs y) (good_ins D g hy) fun z hz => h z (.tail _ hz)
    refine ⟨this.1, ?_⟩
    show put (putOne xs y) ys = _
    rw [putOne_ins D g hy]
    exact this.2
end
section
example : True := by w_top off; trivial
theorem Good.nodup {d xs : List Value} (D : Dom d) (g : Good d xs) : xs.Nodup := by
  unfold List.Nodup
  rw [List.pairwise_iff_forall_sublist]
  intro a b h e
  subst e
  exact D.irr a (g.mem a (h.subset (.head _))) (g.pw a a h rfl)
theorem has_any {d xs : List Value} {x : Value} (D : Dom d) (g : Good d xs) (hx : x ∈ d) : has xs x = anyV xs x := by
  have h1 := has_iff D g hx
  have h2 := any_iff D g.mem hx
  cases q : has xs x with
  | true => exact (h2.mpr (h1.mp q)).symm
  | false =>
    cases q2 : anyV xs x with
    | false => rfl
    | true => rw [h1.mpr (h2.mp q2)] at q; cases q
section
variable {d xs ys : List Value} {x : Value}
theorem sel_only (D : Dom d) (g : Good d xs) (k : Good d ys) : mk (xs.filter (has ys)) = only xs ys true := by
  rw [mk_filter D g]
  unfold only
  exact List.filter_congr fun z hz => by rw [has_any D k (g.mem z hz)]; cases anyV ys z <;> rfl
theorem del_only (D : Dom d) (g : Good d xs) (k : Good d ys) : mk (xs.filter fun z => !has ys z) = only xs ys false := by
  rw [mk_filter D g]
  unfold only
  exact List.filter_congr fun z hz => by rw [has_any D k (g.mem z hz)]; cases anyV ys z <;> rfl
theorem sel_list (D : Dom d) (g : Good d xs) : mk (xs.filter fun z => ys.any fun y => eqV y z) = only xs ys true := by
  rw [mk_filter D g]
  unfold only anyV
  exact List.filter_congr fun z hz => by cases (ys.any fun y => eqV y z) <;> rfl
theorem del_list (D : Dom d) (g : Good d xs) : mk (xs.filter fun z => !(ys.any fun y => eqV y z)) = only xs ys false := by
  rw [mk_filter D g]
  unfold only anyV
  exact List.filter_congr fun z hz => by cases (ys.any fun y => eqV y z) <;> rfl
theorem only_good (g : Good d xs) (b : Bool) : Good d (only xs ys b) := g.sub List.filter_sublist
theorem sym_put (D : Dom d) (g : Good d xs) (k : Good d ys) : symd xs ys = put (only xs ys false) (only ys xs false) := by
  unfold symd
  rw [del_only D g k]
  have : dels [has xs] ys 1 = only ys xs false := del_only D k g
  rw [this]
  exact ((add_good D _ _ (only_good g false) fun z hz => k.mem z (List.mem_filter.mp hz).1).2).symm
theorem rem_only (D : Dom d) (g : Good d xs) (hx : x ∈ d) : (if has xs x then xs.eraseIdx (find xs x) else xs) = only xs [x] false := by
  have hone : ∀ z, anyV [x] z = eqV x z := fun z => by unfold anyV; simp
  have hne : ∀ z ∈ d, z ≠ x → (anyV [x] z == false) = true := fun z hz h => by
    rw [hone]
    cases q : eqV x z with
    | false => rfl
    | true => exact absurd (D.eq x hx z hz q).symm h
  obtain ⟨P, B1, B2, R, s⟩ := g.split D hx
  have md : ∀ y ∈ (P ++ B1) ++ (B2 ++ R), y ∈ d := fun y hy => g.mem y (by rw [s.eq]; exact hy)
  by_cases hm : x ∈ xs
  · rw [if_pos ((has_iff D g hx).mpr hm), find_pos (s.pos D g hx)]
    have hnd := g.nodup D
    have hA : x ∉ P ++ B1 := fun h => (List.mem_append.mp h).elim (fun h => absurd rfl (s.hP x h)) fun h => absurd (s.h1 x h) (D.irr x hx)
    have hh := (s.head D g hx).mpr hm
    have hC : ∃ t, B2 ++ R = x :: t := by
      unfold has at hh
      rw [find_pos (s.pos D g hx), Bool.and_eq_true] at hh
      have hget : xs.getD (P ++ B1).length .none = (B2 ++ R).getD 0 .none := by
        conv => lhs; rw [s.eq]
        rw [getD_right (Nat.le_refl _), Nat.sub_self]
      rw [hget] at hh
      have hlen : xs.length = (P ++ B1).length + (B2 ++ R).length := by conv => lhs; rw [s.eq, List.length_append]
      cases hq : B2 ++ R with
      | nil =>
        rw [hq] at hlen
        have := of_decide_eq_true hh.1
        simp at hlen
        rw [List.length_append] at this
        omega
      | cons c t =>
        rw [hq] at hh
        have : c = x := D.eq c (md c (by rw [hq]; simp)) x hx hh.2
        exact ⟨t, by rw [this]⟩
    obtain ⟨t, ht⟩ := hC
    have hxt : x ∉ t := by
      rw [s.eq, ht] at hnd
      exact (List.nodup_cons.mp (List.nodup_append.mp hnd).2.1).1
    have e1 : xs.eraseIdx (P ++ B1).length = (P ++ B1) ++ t := by
      rw [s.eq, ht, List.eraseIdx_append_of_length_le (Nat.le_refl _), Nat.sub_self]
      rfl
    rw [e1]
    unfold only
    conv => rhs; rw [s.eq, ht]
    rw [List.filter_append, List.filter_cons]
    have hself : (anyV [x] x == false) = false := by rw [hone, D.rfl' x hx]; rfl
    rw [hself]
    rw [filter_all (l := P ++ B1) fun z hz => hne z (md z (List.mem_append_left _ hz)) fun q => hA (q ▸ hz)]
    rw [filter_all (l := t) fun z hz => hne z (md z (by rw [ht]; exact List.mem_append_right _ (.tail _ hz))) fun q => hxt (q ▸ hz)]
    rfl
  · rw [if_neg fun q => hm ((has_iff D g hx).mp q)]
    unfold only
    exact (filter_all fun z hz => hne z (g.mem z hz) fun q => hm (q ▸ hz)).symm
theorem eqL_iff (D : Dom d) : ∀ {xs ys : List Value}, (∀ z ∈ xs, z ∈ d) → (∀ z ∈ ys, z ∈ d) → (eqL xs ys = true ↔ xs = ys)
  | [], [], _, _ => ⟨fun _ => rfl, fun _ => rfl⟩
  | [], _ :: _, _, _ => ⟨fun h => (by cases h), fun h => (by cases h)⟩
  | _ :: _, [], _, _ => ⟨fun h => (by cases h), fun h => (by cases h)⟩
  | x :: xs, y :: ys, h, k => by
    have ih := eqL_iff D (xs := xs) (ys := ys) (fun z hz => h z (.tail _ hz)) fun z hz => k z (.tail _ hz)
    show (eqV x y && eqL xs ys) = true ↔ _
    rw [Bool.and_eq_true, ih]
    constructor
    · rintro ⟨a, b⟩
      rw [D.eq x (h x (.head _)) y (k y (.head _)) a, b]
    · intro e
      obtain ⟨rfl, rfl⟩ := List.cons.inj e
      exact ⟨D.rfl' x (h x (.head _)), rfl⟩
end
end
section
example : True := by w_top off; trivial
theorem nodup_le : ∀ {xs ys : List Value}, xs.Nodup → (∀ z ∈ xs, z ∈ ys) → xs.length ≤ ys.length
  | [], _, _, _ => Nat.zero_le _
  | x :: xs, ys, n, h => by
    obtain ⟨n1, n2⟩ := List.nodup_cons.mp n
    have hx := h x (.head _)
    obtain ⟨a, b, e⟩ := List.append_of_mem hx
    have ih := nodup_le (xs := xs) (ys := a ++ b) n2 fun z hz => by
      have := h z (.tail _ hz)
      rw [e] at this
      rcases List.mem_append.mp this with q | q
      · exact List.mem_append_left _ q
      · rcases List.mem_cons.mp q with rfl | q
        · exact absurd hz n1
        · exact List.mem_append_right _ q
    rw [e, List.length_append, List.length_cons]
    rw [List.length_append] at ih
    rw [List.length_cons]
    omega
theorem filter_split (p : Value → Bool) : ∀ xs : List Value, (xs.filter p).length + (xs.filter fun z => !p z).length = xs.length
  | [] => rfl
  | x :: xs => by
    have ih := filter_split p xs
    rw [List.filter_cons, List.filter_cons]
    cases p x <;> simp <;> omega
section
variable {d xs ys : List Value}
theorem only_split (b : Bool) : (only xs ys true).length + (only xs ys false).length = xs.length := by
  have := filter_split (anyV ys) xs
  unfold only
  rw [← this]
  congr 2
  · exact List.filter_congr fun z _ => by cases anyV ys z <;> rfl
  · exact List.filter_congr fun z _ => by cases anyV ys z <;> rfl
theorem only_nil (D : Dom d) (g : Good d xs) (k : Good d ys) : only xs ys false = [] ↔ ∀ z ∈ xs, z ∈ ys := by
  unfold only
  rw [List.filter_eq_nil_iff]
  constructor
  · intro h z hz
    have := h z hz
    refine (any_iff D k.mem (g.mem z hz)).mp ?_
    cases q : anyV ys z with
    | true => rfl
    | false => exact absurd (by rw [q]; rfl) this
  · intro h z hz q
    rw [(any_iff D k.mem (g.mem z hz)).mpr (h z hz)] at q
    cases q
/-- what both have, told either way -/
theorem both_len (D : Dom d) (g : Good d xs) (k : Good d ys) : (only xs ys true).length = (only ys xs true).length := by
  have aux : ∀ {xs ys : List Value}, Good d xs → Good d ys → (only xs ys true).length ≤ (only ys xs true).length := fun {xs ys} g k =>
    nodup_le ((only_good g true).nodup D) fun z hz => by
      obtain ⟨h1, h2⟩ := List.mem_filter.mp hz
      have hd := g.mem z h1
      have h3 : z ∈ ys := (any_iff D k.mem hd).mp (by simpa using h2)
      exact List.mem_filter.mpr ⟨h3, by rw [(any_iff D g.mem hd).mpr h1]; rfl⟩
  exact Nat.le_antisymm (aux g k) (aux k g)
variable (D : Dom d) (g : Good d xs) (k : Good d ys)
include D g k
theorem q_sub : decide ((mk (xs.filter (has ys))).length = xs.length) = (only xs ys false).isEmpty := by
  rw [sel_only D g k]
  have := only_split (xs := xs) (ys := ys) true
  cases h : only xs ys false with
  | nil => rw [h] at this; exact decide_eq_true (by simpa using this)
  | cons a l => rw [h, List.length_cons] at this; exact decide_eq_false (by omega)
theorem q_sup : decide ((mk (xs.filter (has ys))).length = ys.length) = (only ys xs false).isEmpty := by
  rw [sel_only D g k, both_len D g k]
  have := only_split (xs := ys) (ys := xs) true
  cases h : only ys xs false with
  | nil => rw [h] at this; exact decide_eq_true (by simpa using this)
  | cons a l => rw [h, List.length_cons] at this; exact decide_eq_false (by omega)
theorem q_lt : (decide (xs.length < ys.length) && decide ((mk (xs.filter (has ys))).length = xs.length)) = ((only xs ys false).isEmpty && !(only ys xs false).isEmpty) := by
  rw [q_sub D g k]
  have h1 := only_split (xs := xs) (ys := ys) true
  have h2 := only_split (xs := ys) (ys := xs) true
  have h3 := both_len D g k
  cases h : only xs ys false with
  | cons a l => simp
  | nil =>
    rw [h] at h1
    cases h' : only ys xs false with
    | nil => rw [h'] at h2; simp at h1 h2 ⊢; omega
    | cons b l' => rw [h', List.length_cons] at h2; simp at h1 ⊢; omega
theorem q_gt : (decide (ys.length < xs.length) && decide ((mk (xs.filter (has ys))).length = ys.length)) = ((only ys xs false).isEmpty && !(only xs ys false).isEmpty) := by
  rw [q_sup D g k]
  have h1 := only_split (xs := xs) (ys := ys) true
  have h2 := only_split (xs := ys) (ys := xs) true
  have h3 := both_len D g k
  cases h : only ys xs false with
  | cons a l => simp
  | nil =>
    rw [h] at h2
    cases h' : only xs ys false with
    | nil => rw [h'] at h1; simp at h1 h2 ⊢; omega
    | cons b l' => rw [h', List.length_cons] at h1; simp at h2 ⊢; omega
theorem q_dis : decide ((mk (xs.filter (has ys))).length = 0) = eqL (only xs ys false) xs := by
  rw [sel_only D g k]
  have h1 := only_split (xs := xs) (ys := ys) true
  have he := eqL_iff D (xs := only xs ys false) (ys := xs) (only_good g false).mem g.mem
  by_cases h : (only xs ys true).length = 0
  · rw [decide_eq_true h]
    refine (he.mpr ?_).symm
    have hs : (only xs ys false).Sublist xs := List.filter_sublist
    exact hs.eq_of_length (by omega)
  · rw [decide_eq_false h]
    cases q : eqL (only xs ys false) xs with
    | false => rfl
    | true =>
      have := congrArg List.length (he.mp q)
      omega
theorem q_rev : (decide (ys.reverse.length = xs.length) && ys.reverse.all (has xs)) = ((only xs ys false).isEmpty && (only ys xs false).isEmpty) := by
  have h1 := only_split (xs := xs) (ys := ys) true
  have h2 := only_split (xs := ys) (ys := xs) true
  have h3 := both_len D g k
  have hall : ys.reverse.all (has xs) = (only ys xs false).isEmpty := by
    rw [List.all_reverse]
    cases h : only ys xs false with
    | nil =>
      refine List.all_eq_true.mpr fun z hz => ?_
      exact (has_iff D g (k.mem z hz)).mpr ((only_nil D k g).mp h z hz)
    | cons a l =>
      cases q : ys.all (has xs) with
      | false => rfl
      | true =>
        have : only ys xs false = [] := (only_nil D k g).mpr fun z hz => (has_iff D g (k.mem z hz)).mp (List.all_eq_true.mp q z hz)
        rw [h] at this; cases this
  rw [hall, List.length_reverse]
  cases h : only ys xs false with
  | cons a l => simp
  | nil =>
    rw [h] at h2
    cases h' : only xs ys false with
    | nil => rw [h'] at h1; simp at h1 h2 ⊢; omega
    | cons b l' => rw [h', List.length_cons] at h1; simp at h2 ⊢; omega
end
end
section
example : True := by w_top off; trivial
/-- the two stocks of things -/
def dA : List Value := [.int 0 555, .int 1 556, .int 2 557, .int 3 558, .int 4 559, .int 5 560, .int 6 561, .int 7 562]
def dB : List Value := [.int 0 563, .int 1 564, .int 2 565, .str (Str.ofString "a") 566, .str (Str.ofString "b") 567, .bytes #[97] 568, .bytes #[98] 569, .none]
def ck2 (d : List Value) (f : Value → Value → Bool) : Bool := d.all fun x => d.all fun y => f x y
def ck3 (d : List Value) (f : Value → Value → Value → Bool) : Bool := d.all fun x => d.all fun y => d.all fun z => f x y z
theorem ck2_use {d : List Value} {f : Value → Value → Bool} (h : ck2 d f = true) : ∀ x ∈ d, ∀ y ∈ d, f x y = true := fun x hx y hy => List.all_eq_true.mp (List.all_eq_true.mp h x hx) y hy
theorem ck3_use {d : List Value} {f : Value → Value → Value → Bool} (h : ck3 d f = true) : ∀ x ∈ d, ∀ y ∈ d, ∀ z ∈ d, f x y z = true := fun x hx y hy z hz => List.all_eq_true.mp (List.all_eq_true.mp (List.all_eq_true.mp h x hx) y hy) z hz
/-- a stock is told apart by its places -/
theorem eq_of_ix {d : List Value} (h : ∀ i j : Fin d.length, eqV (d.get i) (d.get j) = true → i = j) : ∀ x ∈ d, ∀ y ∈ d, eqV x y = true → x = y := fun x hx y hy e => by
  obtain ⟨i, rfl⟩ := List.get_of_mem hx
  obtain ⟨j, rfl⟩ := List.get_of_mem hy
  rw [h i j e]
theorem dom_of {d : List Value} (h1 : ∀ i j : Fin d.length, eqV (d.get i) (d.get j) = true → i = j) (h2 : d.all (fun x => eqV x x) = true)
    (h3 : ck2 d (fun x y => (ltV x y == Option.none) == (decide (kd x ≠ kd y) || kd x == 0)) = true) (h4 : d.all (fun x => ltV x x != some true) = true)
    (h5 : ck2 d (fun x y => decide (kd x ≠ kd y) || kd x == 0 || eqV x y || ltV x y == some true || ltV y x == some true) = true)
    (h6 : ck3 d (fun x y z => ltV x y != some true || ltV y z != some true || ltV x z == some true) = true)
    (h7 : ck2 d (fun x y => kd x != 0 || kd y != 0 || eqV x y) = true) : Dom d := by
  have e := eq_of_ix h1
  refine ⟨e, fun x hx => List.all_eq_true.mp h2 x hx, fun x hx y hy => ?_, fun x hx => ?_, fun x hx y hy a b c q => ?_, fun x hx y hy z hz a b => ?_, fun x hx y hy a b => ?_⟩
  · have := ck2_use h3 x hx y hy
    have h := congrArg (· = true) (beq_iff_eq.mp this)
    simp only [beq_iff_eq, Bool.or_eq_true, decide_eq_true_eq] at h
    exact iff_of_eq h
  · have := List.all_eq_true.mp h4 x hx
    simpa using this
  · have := ck2_use h5 x hx y hy
    have n : eqV x y ≠ true := fun h => c (e x hx y hy h)
    simp only [Bool.or_eq_true, decide_eq_true_eq, beq_iff_eq] at this
    rcases this with (((h | h) | h) | h) | h
    · exact absurd a h
    · exact absurd h b
    · exact absurd h n
    · exact absurd h q
    · exact h
  · have := ck3_use h6 x hx y hy z hz
    simp only [Bool.or_eq_true, bne_iff_ne, beq_iff_eq, ne_eq] at this
    rcases this with (h | h) | h
    · exact absurd a h
    · exact absurd b h
    · exact h
  · have := ck2_use h7 x hx y hy
    simp only [Bool.or_eq_true, bne_iff_ne, ne_eq] at this
    rcases this with (h | h) | h
    · exact absurd a h
    · exact absurd b h
    · exact e x hx y hy h
theorem domA : Dom dA := dom_of (by decide +kernel) (by decide +kernel) (by decide +kernel) (by decide +kernel) (by decide +kernel) (by decide +kernel) (by decide +kernel)
theorem domB : Dom dB := dom_of (by decide +kernel) (by decide +kernel) (by decide +kernel) (by decide +kernel) (by decide +kernel) (by decide +kernel) (by decide +kernel)
end
section
example : True := by w_top off; trivial
theorem c_kind {w : World} {own : Led} {x : Value} (hx : Th x) :
    Con w 320 340 400 [x] own (fun v own' => own = own' ∧ ∃ tk, v = .int (kd x : Nat) tk) := by
  intro prog A E Q s h₀ L m mg mb env outer fr₁ fr p loose mean hA hf hk F X T N t O k
  refine enter (K := Mine.hd.heap_39 w.params) (args := ⟨[x], []⟩) (binds := [("thing", x)]) hA hf hk F X T N t O (by k_is) (by k_is) (by decide) (BindsTo.of_eq rfl) (locs rfl) ?_ rfl rfl rfl (by decide)
  intro L' h₁ fr₂ F' N' t' O' bk
  refine PySem.wpAny_noRaise ?_
  try dsimp only
  clear F N t O
  cases hx <;> ktr_unf
  all_goals (acc_keep; exact ⟨rfl, _, rfl⟩)
end
section
example : True := by w_top off; trivial
section
variable {prog : Program} {w : World} {A : Around} {s : Shared} {h₀ : Heap} {L : Addr} {m : Str → Option Value} {env : Env} {ct elt : Expr} {x : Str} {scope : Scope} {cl : List (Str × Addr)} {S : Led → Prop} {P : Nat → Value → Prop} {Fin : List Value → Led → Prop}
theorem compEnd_mono {s₁ s₂ : Shared} {I C D : Addr} {oI oC oD : Obj} {rest rest' : Value → Led → Prop} {y : Value} (h : LCg.CompEnd h₀ L m s₁ I oI C oC D oD S rest y s₂) (k : ∀ nw, rest y nw → rest' y nw) : LCg.CompEnd h₀ L m s₁ I oI C oC D oD S rest' y s₂ := by
  obtain ⟨h', tk, nw, e, F, N, o, hS, r⟩ := h
  exact ⟨h', tk, nw, e, F, N, o, hS, k nw r⟩
/-- a comprehension with a test, by an invariant -/
theorem comp_restT {n : Nat} {news : Led} (Z : Nat → List Value → Led → Prop) (h0 : Z 0 [] news) (fin : ∀ ys nw, Z n ys nw → Fin ys nw)
    (turn : ∀ i ys nw, i < n → Z i ys nw → ∀ v I oI C oC D m₂ h tk (E' : Value → Shared → Prop), P i v → LCg.NsObj oC m₂ → m₂ x = some v → Fr h₀ L h m → News h₀ L h ((I, oI) :: (C, oC) :: (D, LCg.lst ys) :: nw) → LCg.Off3 I C D nw → ((@Ne Nat I C) ∧ (@Ne Nat I D) ∧ (@Ne Nat C D)) →
      wpAny (model prog w) A (isTrue ct (compEnvC scope cl C env) (eval ct (compEnvC scope cl C env))) (fun ok s' => if ok = true then
        wpAny (model prog w) A (eval elt (compEnvC scope cl C env)) (LCg.CompEnd h₀ L m { s with heap := h, toks := tk } I oI C oC D (LCg.lst ys) S (fun y nw' => Z (i + 1) (ys ++ [y]) nw')) E' s'
        else LCg.CompEnd h₀ L m { s with heap := h, toks := tk } I oI C oC D (LCg.lst ys) S (fun _ nw' => Z (i + 1) ys nw') Value.none s') E' { s with heap := h, toks := tk }) :
    LCt.CompRestT prog w A h₀ L m env ct elt x scope cl s S P Fin n 0 [] news := by
  have key : ∀ k i ys nw, i + k = n → Z i ys nw → LCt.CompRestT prog w A h₀ L m env ct elt x scope cl s S P Fin k i ys nw := by
    intro k
    induction k with
    | zero =>
      intro i ys nw hi hz
      obtain rfl : i = n := hi
      exact LCt.CompRestT.zero (fin _ _ hz)
    | succ k ih =>
      intro i ys nw hi hz
      refine LCt.CompRestT.succ fun v I oI C oC D m₂ h tk E' a b c d e f g => ?_
      refine wpAny_mono (turn i ys nw (by omega) hz v I oI C oC D m₂ h tk E' a b c d e f g) (fun ok s' hq => ?_) fun _ _ q => q
      cases ok with
      | true =>
        simp only [if_true] at hq ⊢
        exact wpAny_mono hq (fun y s'' h'' => compEnd_mono h'' fun nw' hz' => ih (i + 1) _ nw' (by omega) hz') fun _ _ q => q
      | false =>
        simp only [Bool.false_eq_true, if_false] at hq ⊢
        exact compEnd_mono hq fun nw' hz' => ih (i + 1) _ nw' (by omega) hz'
  exact key n 0 [] news (Nat.zero_add _) h0
end
theorem in_led {prog : Program} {w : World} {A : Around} {E : Value → Shared → Prop} {Q : Value → Shared → Prop} {s : Shared} {h₀ : Heap} {L l : Addr} {news : Led} {ys : List Value} {n : Nat} {x : Value} (N : News h₀ L s.heap news) (hl : (l, listOf ys.toArray n) ∈ news) (hy : ∀ y ∈ ys, Th y) (hx : Th x) (h : Q (.bool (ys.any fun y => eqV y x)) s) :
    wpAny (model prog w) A (compareOp .In x (.ref l)) Q E s := by
  refine PySem.SeqAt.in_listAt (fun y => eqV y x) ⟨_, (N _ hl).1, rfl, _, rfl⟩ (fun y hq => th_eqAt (hy y (by simpa using hq)) hx) ?_
  simpa using h
theorem notIn_led {prog : Program} {w : World} {A : Around} {E : Value → Shared → Prop} {Q : Value → Shared → Prop} {s : Shared} {h₀ : Heap} {L l : Addr} {news : Led} {ys : List Value} {n : Nat} {x : Value} (N : News h₀ L s.heap news) (hl : (l, listOf ys.toArray n) ∈ news) (hy : ∀ y ∈ ys, Th y) (hx : Th x) (h : Q (.bool (!ys.any fun y => eqV y x)) s) :
    wpAny (model prog w) A (compareOp .NotIn x (.ref l)) Q E s := by
  refine PySem.SeqAt.notIn_listAt (fun y => eqV y x) ⟨_, (N _ hl).1, rfl, _, rfl⟩ (fun y hq => th_eqAt (hy y (by simpa using hq)) hx) ?_
  simpa using h
theorem off1_mem {D : Addr} : ∀ {l : Led}, LCg.Off1 D l → ∀ p ∈ l, p.1 ≠ D
  | [], _, _, h => nomatch h
  | _ :: _, o, _, .head _ => o.1
  | _ :: _, o, p, .tail _ h => off1_mem o.2 p h
theorem off1_frs {D : Addr} {own fr fr₁ : Led} {l : List Env} (o : LCg.Off1 D (own ++ fr)) (t : Tl l fr₁ fr) : D ∉ frs l := fun hm => by
  rw [frs, t.1.addrs] at hm
  obtain ⟨p, hp, e⟩ := List.mem_map.mp hm
  exact off1_mem o p (List.mem_append_right _ hp) e
theorem only_t (row things : List Value) (b : Bool) {i : Nat} {v : Value} (hv : row[i]? = some v) (h : ((things.any fun y => eqV y v) == b) = true) : only (row.take i) things b ++ [v] = only (row.take (i + 1)) things b := by
  unfold only
  rw [take_snoc hv, List.filter_append]
  have : (anyV things v == b) = true := h
  simp [this]
theorem only_f (row things : List Value) (b : Bool) {i : Nat} {v : Value} (hv : row[i]? = some v) (h : ((things.any fun y => eqV y v) == b) = false) : only (row.take i) things b = only (row.take (i + 1)) things b := by
  unfold only
  rw [take_snoc hv, List.filter_append]
  have : (anyV things v == b) = false := h
  simp [this]
end
local macro_rules | `(tactic| walk_at "eval ListComp") => `(tactic| (k_here; refine Hold.of ?_))
local macro_rules | `(tactic| walk_at "exec Assign cons ListComp") => `(tactic| (k_here; refine Hold.of ?_))
local macro_rules | `(tactic| walk_at "compareOp In") => `(tactic| (k_here; (with_reducible show wpAny _ _ (compareOp _ _ (Value.ref _)) _ _ _); (refine' in_led ?N ?l ?y ?x ?_); (case N => k_asm); (case l => k_mem); (case y => with_reducible assumption); (case x => tb_start)))
local macro_rules | `(tactic| walk_at "compareOp NotIn") => `(tactic| (k_here; (with_reducible show wpAny _ _ (compareOp _ _ (Value.ref _)) _ _ _); (refine' notIn_led ?N ?l ?y ?x ?_); (case N => k_asm); (case l => k_mem); (case y => with_reducible assumption); (case x => tb_start)))
section
example : True := by w_top off; trivial
theorem c_only {w : World} {own : Led} {r l : Addr} {row things : List Value} {n1 n2 : Nat} {b : Bool} (hr : (r, listOf row.toArray n1) ∈ own) (hl : (l, listOf things.toArray n2) ∈ own) (hrt : ∀ y ∈ row, Th y) (hlt : ∀ y ∈ things, Th y) (hz : row.length ≤ 400) (hz2 : things.length ≤ 400) :
    Con w 330 340 400 [.ref r, .ref l, .bool b] own (fun v own' => ∃ R n, v = .ref R ∧ (R, listOf (only row things b).toArray n) ∈ own' ∧ Kq own own' ∧ New own R) := by
  intro prog A E Q s h₀ L m mg mb env outer fr₁ fr p loose mean hA hf hk F X T N t O k
  refine enterCell (K := Mine.hd.heap_39 w.params) (args := ⟨[.ref r, .ref l, .bool b], []⟩) (binds := [("row", .ref r), ("things", .ref l), ("there", .bool b)]) hA hf hk F X T N t O (by k_is) (by k_is) (by decide) (BindsTo.of_eq rfl) rfl (by decide +kernel) ?_ rfl rfl rfl
  intro L' h₁ tk₁ fr₂ cells F' N' Y t' Oc O' nc bk
  refine PySem.wpAny_noRaise ?_
  obtain ⟨o1, o2, rfl, d1, d2⟩ := CellsAre.two Y
  have c1 : o1.data = .cell (some (.bool b)) := d1
  have c2 : o2.data = .cell (some (.ref l)) := d2
  have N2 : News h₀ L' h₁ (((L' + 1 + 1, o1) :: (L' + 1, o2) :: own) ++ fr₂) := N'
  have O2 : Off ((L' + 1 + 1, o1) :: (L' + 1, o2) :: own) (env :: outer) := Off.cons (Oc _ (.head _)) (Off.cons (Oc _ (.tail _ (.head _))) O')
  have hC1 : (L' + 1 + 1, o1) ∈ (L' + 1 + 1, o1) :: (L' + 1, o2) :: own := .head _
  have hC2 : (L' + 1, o2) ∈ (L' + 1 + 1, o1) :: (L' + 1, o2) :: own := .tail _ (.head _)
  have kqC : Kq own ((L' + 1 + 1, o1) :: (L' + 1, o2) :: own) := fun p hp => .tail _ (.tail _ hp)
  have F2 : Fr h₀ L' h₁ (fun y => if y = ("row" : Str) then some (.ref r) else none) := F'
  generalize ((L' + 1 + 1, o1) :: (L' + 1, o2) :: own) = ownC at N2 O2 hC1 hC2 kqC
  clear N' Y nc Oc d1 d2 F N t O F' O'
  try dsimp only
  ktr_unf
  unfold Hold
  (rename Fr h₀ L' _ _ => F1; rename News h₀ L' _ _ => N1)
  refine LCt.ListComp_T F1 (by with_unfolding_all rfl) (by decide) (by rfl) (by decide) (by rfl) ?_
  ktr_unf
  (rename Fr h₀ L' _ _ => F3; rename News h₀ L' _ _ => N3)
  refine LCt.CompSrcT.ledger (its := row.toArray) (k := n1) rfl F3 N3 (List.mem_append_left _ (kqC _ hr)) (by rw [List.size_toArray]; exact sizeLine_ge (by omega)) fun g => ?_
  have hsz : row.toArray.size = row.length := by simp
  rw [hsz]
  clear F3 N3
  refine comp_restT (fun i ys nw => nw = ownC ++ fr₂ ∧ ys = only (row.take i) things b) ⟨rfl, rfl⟩ ?_ ?_
  · rintro ys nw ⟨rfl, rfl⟩ D h tk F5 N5 off
    have O5 : Off ((D, LCg.lst (only (row.take row.length) things b)) :: ownC) (env :: outer) := Off.cons (off1_frs off t') O2
    dsimp only
    acc_keep
    rw [List.take_length]
    exact ⟨D, _, rfl, .head _, fun p hp => .tail _ (kqC p hp), fun p hp => off1_mem off p (List.mem_append_left _ (kqC p hp))⟩
  · rintro i ys nw hi ⟨rfl, rfl⟩ v I oI C oC D m₂ h tk E' hP hns hm F5 N5 off ne
    have hv : row[i]? = some v := by simpa using hP
    have hTv : Th v := hrt _ (List.mem_of_getElem? hv)
    have hlC : (l, listOf things.toArray n2) ∈ ownC := kqC _ hl
    have hS : LCg.SrcAt h₀ r row.toArray (ownC ++ fr₂) := .inr ⟨_, List.mem_append_left _ (kqC _ hr), rfl, _, rfl⟩
    ktr_unf
    · rename (_ = true) => he
      exact ⟨h, tk, _, rfl, F5, N5, off, hS, rfl, only_t row things b hv he⟩
    · rename (_ = false) => he
      exact ⟨h, tk, _, rfl, F5, N5, off, hS, rfl, only_f row things b hv he⟩
end
section
example : True := by w_top off; trivial
section
variable {prog : Program} {w : World} {A : Around} {E : Value → Shared → Prop} {s : Shared} {env : Env} {h₀ : Heap} {body : List Stmt} {Q : Flow → Shared → Prop} {L : Addr}
/-- a for loop over a list of the ledger, whatever its target -/
theorem for_list {target iter : Expr} {pos : PySem.Pos} {l : Addr} {vs : List Value} {nn : Nat} {outer : List Env} {fr₁ : Led} (J : Nat → (Str → Option Value) → Led → Prop) (hh : A.handled = none)
    (hiter : wpAny (model prog w) A (eval iter env) (fun xv s₁ => ∃ h tk m₀ own fr, xv = .ref l ∧ s₁ = { s with heap := h, toks := tk } ∧ Fr h₀ L h m₀ ∧ News h₀ L h (own ++ fr) ∧ Tl outer fr₁ fr ∧ Off own outer ∧ (l, listOf vs.toArray nn) ∈ own ∧ J 0 m₀ own) E s)
    (turn : ∀ I i v m₁ own₁ fr₂ oI h tk, vs[i]? = some v → (l, listOf vs.toArray nn) ∈ own₁ → J i m₁ own₁ → New own₁ I → Tl outer fr₁ fr₂ → Off ((I, oI) :: own₁) outer → Fr h₀ L h m₁ → News h₀ L h ((I, oI) :: (own₁ ++ fr₂)) →
      wpAny (model prog w) A (assign target env v) (fun _ s₂ => wpAny (model prog w) A (execs body env) (TurnEndG h₀ L outer fr₁ I oI [(l, listOf vs.toArray nn)] (J (i + 1)) { s with heap := h, toks := tk } Q) E s₂) E { s with heap := h, toks := tk })
    (done : ∀ m₁ own₁ fr₂ h tk, J vs.length m₁ own₁ → Tl outer fr₁ fr₂ → Off own₁ outer → Fr h₀ L h m₁ → News h₀ L h (own₁ ++ fr₂) → Q .next { s with heap := h, toks := tk })
    (hs : ∀ x, foldedSetIterable iter env x = pure x := by intro _; rfl) (ht : ∀ it v, letOwnedTupleGo target it v = pure () := by intro _ _; rfl) (hE : PassesOwn (model prog w) A env E := by passes_own) :
    wpAny (model prog w) A (exec (.For target iter body [] pos) env) Q E s := by
  refine wpAny_For (wpAny_mono hiter (fun xv s₁ h₁ => ?_) fun _ _ e => e) hs
  obtain ⟨h, tk, m₀, own, fr, rfl, rfl, F, N, t, O, hl, hj⟩ := h₁
  have hol : h.get? l = some (listOf vs.toArray nn) := (N _ (List.mem_append_left _ hl)).1
  have hlist : h.IsList l vs.toArray := ⟨_, hol, rfl, nn, rfl⟩
  refine wpAny_pyIter_list (s := { s with heap := h, toks := tk }) hlist ?_
  have hlt : ∀ p ∈ own ++ fr, p.1 < h.objs.size := fun p hp => Heap.lt_size (N p hp).1
  have W := Walks.list (prog := prog) (w := w) hh h.objs.size l (Nat.ne_of_lt (Heap.lt_size hol)) vs.toArray
  have hlen : vs.toArray.size = vs.length := by simp
  rw [hlen] at W
  have hI0 : h₀.get? h.objs.size = none := next_is_new F
  have hIL : L ≠ h.objs.size := Nat.ne_of_lt F.ns.lt
  have hIf0 : h.objs.size ∉ frs outer := off_new (allLt_of hlt) t
  have nI0 : New own h.objs.size := fun p hp => Nat.ne_of_lt (hlt p (List.mem_append_left _ hp))
  have hfrI : ∀ {fr' : Led}, Tl outer fr₁ fr' → ∀ p ∈ fr', p.1 ≠ h.objs.size := fun t' p hp e => hIf0 (by rw [frs, t'.1.addrs, ← e]; exact List.mem_map_of_mem hp)
  have F0 : Fr h₀ L (h.push { cls := .type "list_iterator", data := .fields #[.ref l, .int 0 0] }) m₀ := F.push _
  have N0 : News h₀ L (h.push { cls := .type "list_iterator", data := .fields #[.ref l, .int 0 0] }) (own ++ fr) := fun p hp => ⟨Heap.get?_push_of_some _ (N p hp).1, (N p hp).2⟩
  have st0 : (h.push { cls := .type "list_iterator", data := .fields #[.ref l, .int 0 0] }).IsListIter h.objs.size l 0 ∧ (h.push { cls := .type "list_iterator", data := .fields #[.ref l, .int 0 0] }).IsList l vs.toArray := ⟨⟨_, Heap.get?_push_size _ rfl, rfl, rfl⟩, hlist.at fun o e => Heap.get?_push_of_some _ e⟩
  clear N F
  generalize h.push { cls := .type "list_iterator", data := .fields #[.ref l, .int 0 0] } = h1 at F0 N0 st0 ⊢
  generalize h.objs.size = I at W hI0 hIL hIf0 hlt nI0 hfrI st0 ⊢
  refine codeAny_forLoop (fun k s' => ∃ h' tk' i m' own' fr', s' = { s with heap := h', toks := tk' } ∧ i ≤ vs.length ∧ k = vs.length + 1 - i ∧ (h'.IsListIter I l i ∧ h'.IsList l vs.toArray) ∧ Fr h₀ L h' m' ∧ News h₀ L h' (own' ++ fr') ∧ Tl outer fr₁ fr' ∧ Off own' outer ∧ New own' I ∧ (l, listOf vs.toArray nn) ∈ own' ∧ J i m' own') ?_ (vs.length + 1)
    ⟨h1, tk, 0, m₀, own, fr, rfl, Nat.zero_le _, rfl, st0, F0, N0, t, O, nI0, hl, hj⟩ (ht _)
  rintro k s' ⟨h', tk', i, m', own', fr', rfl, hi, rfl, st, F', N', t', O', nI, hl', hJ⟩
  have next : ∀ h₂ : Heap, (∀ b o, b ∉ [I] → h'.get? b = some o → h₂.get? b = some o) → Fr h₀ L h₂ m' ∧ News h₀ L h₂ (own' ++ fr') := fun h₂ hk₂ => by
    have hne : ∀ b, b ≠ I → b ∉ [I] := fun b hb hm => hb (List.mem_singleton.mp hm)
    obtain ⟨oL, es, ep, hL, hr⟩ := F'.ns
    refine ⟨⟨⟨oL, es, ep, hk₂ _ _ (hne _ hIL) hL, hr⟩, fun b o e => hk₂ b o (hne _ fun q => by rw [q, hI0] at e; cases e) (F'.keep b o e), F'.above⟩, fun p hp => ⟨hk₂ _ _ (hne _ ?_) (N' p hp).1, (N' p hp).2⟩⟩
    rcases List.mem_append.mp hp with hp | hp
    · exact nI p hp
    · exact hfrI t' p hp
  by_cases hlt' : i < vs.length
  · refine W.item i _ _ _ hlt' st fun v h₂ tk₂ hP st₂ hk₂ => ?_
    obtain ⟨F₂, N₂⟩ := next h₂ hk₂
    obtain ⟨⟨oI, hoI, _⟩, _⟩ := id st₂
    have N₃ : News h₀ L h₂ ((I, oI) :: (own' ++ fr')) := fun p hp => by
      rcases List.mem_cons.mp hp with e | hp
      · rw [e]; exact ⟨hoI, Ne.symm hIL, hI0⟩
      · exact N₂ p hp
    refine wpAny_passesOwn hE (wpAny_mono (turn I i v m' own' fr' oI h₂ tk₂ (by simpa using hP) hl' hJ nI t' (Off.cons hIf0 O') F₂ N₃) (fun _ s₂ hq => wpAny_passesOwn hE (wpAny_mono hq (fun f s₃ p => ?_) fun _ _ e => e)) fun _ _ e => e)
    have fin : (∃ h' tk m' own'' fr'', s₃ = { s with heap := h', toks := tk } ∧ Fr h₀ L h' m' ∧ News h₀ L h' (own'' ++ fr'') ∧ Tl outer fr₁ fr'' ∧ Off own'' outer ∧ (I, oI) ∈ own'' ∧ Kq [(l, listOf vs.toArray nn)] own'' ∧ J (i + 1) m' (own''.filter fun p => decide (p.1 ≠ I))) →
        ∃ k, k < vs.length + 1 - i ∧ ∃ h' tk' i m' own' fr', s₃ = { s with heap := h', toks := tk' } ∧ i ≤ vs.length ∧ k = vs.length + 1 - i ∧ (h'.IsListIter I l i ∧ h'.IsList l vs.toArray) ∧ Fr h₀ L h' m' ∧ News h₀ L h' (own' ++ fr') ∧ Tl outer fr₁ fr' ∧ Off own' outer ∧ New own' I ∧ (l, listOf vs.toArray nn) ∈ own' ∧ J i m' own' := by
      rintro ⟨h₃, tk₃, m₃, own₃, fr₃, e, F₃, N₃', t₃, O₃, hI₃, kk, hJ₃⟩
      have g1 := (N₃' _ (List.mem_append_left _ hI₃)).1
      have g2 := (N₃' _ (List.mem_append_left _ (kk _ (.head _)))).1
      refine ⟨vs.length + 1 - (i + 1), by omega, h₃, tk₃, i + 1, m₃, own₃.filter (fun p => decide (p.1 ≠ I)), fr₃, e, hlt', rfl, ⟨st₂.1.at fun o q => ?_, ⟨_, g2, rfl, nn, rfl⟩⟩, F₃, fun p hp => ?_, t₃, fun p hp => O₃ p (List.mem_filter.mp hp).1, fun p hp => by simpa using (List.mem_filter.mp hp).2, List.mem_filter.mpr ⟨kk _ (.head _), by simpa using nI _ hl'⟩, hJ₃⟩
      · rw [hoI] at q; cases q; exact g1
      · rcases List.mem_append.mp hp with hp | hp
        · exact N₃' p (List.mem_append_left _ (List.mem_filter.mp hp).1)
        · exact N₃' p (List.mem_append_right _ hp)
    cases f with
    | ret v => exact p
    | brk => exact p
    | next => exact fin p
    | cont => exact fin p
  · obtain rfl : i = vs.length := Nat.le_antisymm hi (Nat.not_lt.mp hlt')
    refine W.done _ _ _ st fun h₂ tk₂ hk₂ => ?_
    obtain ⟨F₂, N₂⟩ := next h₂ hk₂
    exact wpAny_execs_nil (done m' own' fr' h₂ tk₂ hJ t' O' F₂ N₂)
end
section
variable {M : Model} {A : Around} {E : Value → Shared → Prop} {s : Shared} {h₀ : Heap} {L c : Addr} {m : Str → Option Value} {env : Env} {outer : List Env} {own fr₁ fr news : Led} {x : Str} {v : Value} {v₀ : Option Value} {o : Obj}
/-- a captured name is stored -/
theorem u_cell {Q : Unit → Shared → Prop} (F : Fr h₀ L s.heap m) (N : News h₀ L s.heap news) (hc : Cut news own fr) (hm : (c, o) ∈ own) (hd : o.data = .cell v₀) (t : Tl outer fr₁ fr) (O : Off own outer)
    (hk : env.scope.kind = .function) (hx : env.kindOf x = some .cell) (hl : env.cells.lookup x = some c)
    (k : ∀ h' own' o', Kp c own own' → (c, o') ∈ own' → o'.data = .cell (some v) → Off own' outer → Fr h₀ L h' m → News h₀ L h' (own' ++ fr) → Q () { s with heap := h' }) : wpAny M A (storeName env x v) Q E s := by
  unfold Cut at hc
  subst hc
  have hg := N _ (List.mem_append_left _ hm)
  refine wpAny_storeName_cell hk hx hl ⟨o, hg.1, hd⟩ fun h' hv hs => ?_
  obtain ⟨o', ho', hd'⟩ := hv
  have hkeep : ∀ b, b ≠ c → h'.get? b = s.heap.get? b := fun b hb => hs.2 b hb
  exact k h' (upd c o' own) o' upd_kp (upd_mem hm) hd' (upd_off hm O) (fr_upd F N (List.mem_append_left _ hm) hkeep) (upd_news N hm t O ho' hkeep)
end
end
section
example : True := by w_top off; trivial
theorem off3_off {I C D : Addr} {oI oC oD : Obj} {own fr fr₁ : Led} {l : List Env} (o : LCg.Off3 I C D (own ++ fr)) (t : Tl l fr₁ fr) (O : Off own l) : Off ((I, oI) :: (C, oC) :: (D, oD) :: own) l := by
  have key : ∀ a, (∀ p ∈ fr, p.1 ≠ a) → a ∉ frs l := fun a h hm => by
    rw [frs, t.1.addrs] at hm
    obtain ⟨p, hp, e⟩ := List.mem_map.mp hm
    exact h p hp e
  have m := fun p hp => o.mem p (List.mem_append_right own hp)
  exact Off.cons (key I fun p hp => (m p hp).1) (Off.cons (key C fun p hp => (m p hp).2.1) (Off.cons (key D fun p hp => (m p hp).2.2) O))
theorem off3_next {I C D : Addr} {own fr fr' fr₁ fr₂ : Led} {l : List Env} (o : LCg.Off3 I C D (own ++ fr)) (t : Tl l fr₁ fr) (t' : Tl l fr₂ fr') : LCg.Off3 I C D (own ++ fr') := by
  refine LCg.Off3.of fun p hp => ?_
  rcases List.mem_append.mp hp with hp | hp
  · exact o.mem p (List.mem_append_left _ hp)
  · have e : fr'.map (·.1) = fr.map (·.1) := t'.1.addrs.symm.trans t.1.addrs
    have hm : p.1 ∈ fr.map (·.1) := e ▸ List.mem_map_of_mem hp
    obtain ⟨q, hq, e'⟩ := List.mem_map.mp hm
    have := o.mem q (List.mem_append_right _ hq)
    rw [e'] at this
    exact this
/-- ints with their tokens -/
def numsV (ks : List (Nat × Tok)) : List Value := ks.map fun p => .int (p.1 : Nat) p.2
theorem small_n {n : Nat} (h : n ≤ 1000) : Builtin.Range.small 0 (n : Int) 1 = true := small_one (by omega) (by omega) (by omega) (by omega)
theorem range_n (n : Nat) : Builtin.Range.rangeSize 0 (n : Int) 1 = ((n : Nat) : Int) := by
  rw [rangeSize_nat]
  omega
theorem snoc_t {p : Nat → Bool} {j : Nat} {l : List Nat} (h : l = (List.range j).filter p) (e : p j = true) : l ++ [j] = (List.range (j + 1)).filter p := by
  rw [List.range_succ, List.filter_append, ← h, List.filter_cons_of_pos e, List.filter_nil]
theorem snoc_f {p : Nat → Bool} {j : Nat} {l : List Nat} (h : l = (List.range j).filter p) (e : p j = false) : l = (List.range (j + 1)).filter p := by
  rw [List.range_succ, List.filter_append, ← h, List.filter_cons_of_neg (by rw [e]; exact Bool.false_ne_true), List.filter_nil, List.append_nil]
theorem getD_in {l : List Value} {i : Nat} (h : i < l.length) : l.getD i .none ∈ l := by
  rw [List.getD_eq_getElem?_getD, List.getElem?_eq_getElem h]; exact List.getElem_mem h
theorem filter_room {p : Nat → Bool} : ∀ (n k : Nat) (l : List Nat), (List.range n).filter p = k :: l → k + (l.length + 1) ≤ n
  | 0, k, l, h => by cases h
  | n + 1, k, l, h => by
    rw [List.range_succ, List.filter_append] at h
    cases hq : (List.range n).filter p with
    | nil =>
      rw [hq, List.nil_append] at h
      cases hn : p n with
      | true =>
        rw [List.filter_cons_of_pos hn, List.filter_nil] at h
        injection h with h1 h2
        subst h1
        subst h2
        simp
      | false =>
        rw [List.filter_cons_of_neg (by rw [hn]; exact Bool.false_ne_true)] at h
        cases h
    | cons k' l' =>
      have ih := filter_room n k' l' hq
      rw [hq, List.cons_append] at h
      injection h with h1 h2
      subst h1
      subst h2
      have := List.length_filter_le p [n]
      rw [List.length_append]
      simp at this
      omega
theorem take_snocG {α : Type} {l : List α} {i : Nat} {x : α} (h : l[i]? = some x) : l.take (i + 1) = l.take i ++ [x] := by
  rw [List.take_succ, h]; rfl
end
section
example : True := by w_top off; trivial
section
variable {prog : Program} {w : World} {A : Around} {E : Value → Shared → Prop} {s : Shared} {h₀ : Heap} {L l a b : Addr} {m : Str → Option Value} {outer : List Env} {own fr₁ fr news : Led} {ys zs xs : List Value} {n n2 : Nat} {Q : Value → Shared → Prop}
theorem led_list {h : Heap} (N : News h₀ L h (own ++ fr)) (hl : (l, listOf ys.toArray n) ∈ own) : h.IsList l ys.toArray := ⟨_, (N _ (List.mem_append_left _ hl)).1, rfl, n, rfl⟩
theorem new_front {D : Addr} (t : Tl outer fr₁ fr) (O : Off own outer) (o : Obj) (l1 : ∀ p ∈ own ++ fr, p.1 < D) : New own D ∧ Off ((D, o) :: own) outer :=
  ⟨fun p hp => Nat.ne_of_lt (l1 p (List.mem_append_left _ hp)), Off.cons (off_new (allLt_of l1) t) O⟩
/-- a slice of a list in the ledger -/
theorem u_slice {value slice : PySem.Expr} {vl vu : Value} {lo hi : Option Int} (F : Fr h₀ L s.heap m) (N : News h₀ L s.heap news) (hc : Cut news own fr) (hl : (l, listOf ys.toArray n) ∈ own) (t : Tl outer fr₁ fr) (O : Off own outer)
    (pl : IsPart vl lo) (pu : IsPart vu hi) (e : kms_pick ys lo hi = zs) (hz : ys.length ≤ 1000)
    (h : ∀ D h', New own D → Off ((D, listOf zs.toArray 0) :: own) outer → Fr h₀ L h' m → News h₀ L h' ((D, listOf zs.toArray 0) :: (own ++ fr)) → Q (.ref D) { s with heap := h' })
    (hs : subscripted slice false (.ref l) (.ref s.heap.objs.size) = operate [.ref s.heap.objs.size, .ref l] (getItem (.ref l) (.ref s.heap.objs.size))) (ht : ∀ r, letTemporaryGo value (.ref l) r = pure ()) :
    wpAny (model prog w) A (subscriptTail value slice (.ref l) (.ref s.heap.objs.size)) Q E { s with heap := s.heap.push { cls := .type "slice", data := .fields #[vl, vu, .none] } } := by
  unfold Cut at hc
  subst hc
  refine kmk_slice F N (led_list N hl) pl pu (fun D h' F' N' l1 => ?_) hs ht (by rw [List.size_toArray]; exact sizeLine_ge (by omega))
  have e' : slicePick ys.toArray lo hi none = zs.toArray := by rw [kms_pick_eq, List.toList_toArray, e]
  rw [e'] at N'
  obtain ⟨n1, O1⟩ := new_front t O (listOf zs.toArray 0) l1
  exact h D h' n1 O1 F' N'
theorem u_rev {value slice : PySem.Expr} {vk : Value} {ops : List Value} (F : Fr h₀ L s.heap m) (N : News h₀ L s.heap news) (hc : Cut news own fr) (hl : (l, listOf ys.toArray n) ∈ own) (t : Tl outer fr₁ fr) (O : Off own outer)
    (pk : IsPart vk (some (-1))) (hz : ys.length ≤ 1000)
    (h : ∀ D h', New own D → Off ((D, listOf ys.reverse.toArray 0) :: own) outer → Fr h₀ L h' m → News h₀ L h' ((D, listOf ys.reverse.toArray 0) :: (own ++ fr)) → Q (.ref D) { s with heap := h' })
    (hs : subscripted slice false (.ref l) (.ref s.heap.objs.size) = operate ops (getItem (.ref l) (.ref s.heap.objs.size))) (ht : ∀ r, letTemporaryGo value (.ref l) r = pure ()) :
    wpAny (model prog w) A (subscriptTail value slice (.ref l) (.ref s.heap.objs.size)) Q E { s with heap := s.heap.push { cls := .type "slice", data := .fields #[.none, .none, vk] } } := by
  unfold Cut at hc
  subst hc
  refine krv_lit F N (led_list N hl) pk rfl (fun D h' F' N' l1 => ?_) hs ht (by rw [List.size_toArray]; exact sizeLine_ge (by omega))
  obtain ⟨n1, O1⟩ := new_front t O (listOf ys.reverse.toArray 0) l1
  exact h D h' n1 O1 F' N'
/-- two lists of the ledger joined -/
theorem u_cat (F : Fr h₀ L s.heap m) (N : News h₀ L s.heap news) (hc : Cut news own fr) (ha : (a, listOf xs.toArray n) ∈ own) (hb : (b, listOf ys.toArray n2) ∈ own) (t : Tl outer fr₁ fr) (O : Off own outer) (hz : xs.length + ys.length ≤ 1000)
    (h : ∀ D h', New own D → Off ((D, listOf (xs ++ ys).toArray 0) :: own) outer → Fr h₀ L h' m → News h₀ L h' ((D, listOf (xs ++ ys).toArray 0) :: (own ++ fr)) → Q (.ref D) { s with heap := h' }) :
    wpAny (model prog w) A (binaryOp .Add (.ref a) (.ref b)) Q E s := by
  unfold Cut at hc
  subst hc
  refine add_lists F N (led_list N ha) (led_list N hb) (fun h' F' N' => ?_) (sizeLine_ge (by omega))
  obtain ⟨n1, O1⟩ := new_front t O (listOf (xs ++ ys).toArray 0) (fun p hp => Heap.lt_size (N p hp).1)
  exact h _ h' n1 O1 F' N'
theorem u_list {vs : List Value} (F : Fr h₀ L s.heap m) (N : News h₀ L s.heap news) (hc : Cut news own fr) (t : Tl outer fr₁ fr) (O : Off own outer) (hz : vs.length ≤ 1000)
    (h : ∀ D h', New own D → Off ((D, listOf vs.toArray 0) :: own) outer → Fr h₀ L h' m → News h₀ L h' ((D, listOf vs.toArray 0) :: (own ++ fr)) → Q (.ref D) { s with heap := h' }) :
    wpAny (model prog w) A (newList vs) Q E s := by
  unfold Cut at hc
  subst hc
  obtain ⟨n1, O1⟩ := new_front t O (listOf vs.toArray 0) (fun p hp => Heap.lt_size (N p hp).1)
  refine wpAny_newObj_type (h _ _ n1 O1 (F.push _) (News.push F N _)) ?_
  all_goals first | (show vs.toArray.size ≤ sizeLine; rw [List.size_toArray]; exact sizeLine_ge (by omega)) | skip
theorem pick_to (ys : List Value) {k : Int} {n : Nat} (hk : k = (n : Int)) (hn : n ≤ ys.length) : kms_pick ys none (some k) = ys.take n := by
  subst hk
  unfold kms_pick kms_lo kms_hi
  simp only []
  rw [if_neg (by omega), List.drop_zero]
  congr 1
  omega
theorem pick_from (ys : List Value) {k : Int} {n : Nat} (hk : k = (n : Int)) (hn : n ≤ ys.length) : kms_pick ys (some k) none = ys.drop n := by
  subst hk
  unfold kms_pick kms_lo kms_hi
  simp only []
  rw [if_neg (by omega), show min ((n : Int).toNat) ys.length = n by omega]
  exact List.take_of_length_le (by rw [List.length_drop]; omega)
end
end
local macro_rules | `(tactic| walk_at "exec For Name Name cons nil") => `(tactic| (k_here; (with_reducible show wpAny _ _ (exec (Stmt.For (Expr.Name _ _) _ _ [] _) (envOfC _ _ _ _ _)) _ _ _); refine Hold.of ?_))
local macro_rules | `(tactic| walk_at "CompSrcT") => `(tactic| refine Hold.of ?_)
local macro_rules | `(tactic| walk_at "CompSrc") => `(tactic| refine Hold.of ?_)
local macro_rules | `(tactic| walk_at "call ref") => `(tactic| (k_here; (with_reducible show wpAny _ _ (call (Value.ref 320) _) _ _ _); (refine' Con.use ?c ?hA ?hf ?hk ?F ?X ?T ?N ?hc ?t ?O (fun v9 h9 tk9 own9 fr9 T9 F9 N9 O9 R9 => ?_)); (case N => k_asm); (case hc => acc_binds); (case c => exact c_kind (by tb_start)); (case hA => acc_state); (case hf => rfl); (case hk => rfl); (case F => k_asm); (case X => k_asm); (case T => k_asm); (case t => with_reducible assumption); (case O => acc_keepN); (obtain ⟨e9, tk8, e8⟩ := R9; subst e9; subst e8)))
local macro_rules | `(tactic| walk_at "subscriptTail") => `(tactic| (k_here; (with_reducible show wpAny _ _ (subscriptTail _ _ (Value.ref _) (Value.int _ _)) _ _ _); (with_unfolding_all refine' item_led (by k_asm) (by k_mem) ?k1 ?k2 (by first | assumption | omega) ?_; (case k1 => first | exact Int.zero_add _ | exact rfl | exact (rfl : (0 : Int) = ((0 : Nat) : Int)) | exact (rfl : (1 : Int) = ((1 : Nat) : Int)) | assumption); (case k2 => first | assumption | omega | exact Nat.zero_lt_succ _); (try simp only [List.getD_cons_zero, List.getD_cons_succ]))))
local macro_rules | `(tactic| walk_at "subscriptTail Name Slice ref ref") => `(tactic| (k_here; (with_reducible show wpAny _ _ (subscriptTail _ (PySem.Expr.Slice _ _ none _) (Value.ref _) (Value.ref _)) _ _ _); k_dflt ((refine' u_slice ?F ?N ?c ?a ?t ?O ?p ?q ?e ?z (fun D9 h9 n9 O9 F9 N9 => ?_) ?hs ?ht); (case F => k_asm); (case N => k_asm); (case c => acc_binds); (case a => k_mem); (case t => with_reducible assumption); (case O => acc_keepN); (case p => kmk_part); (case q => kmk_part); (case e => first | exact pick_to _ rfl (by first | assumption | omega) | exact pick_from _ rfl (by first | assumption | omega) | exact pick_to _ (by with_reducible assumption) (by with_reducible assumption) | exact pick_from _ (by with_reducible assumption) (by with_reducible assumption) | exact rfl); (case z => first | assumption | omega); (case hs => with_unfolding_all rfl); (case ht => kmk_pure))))
local macro_rules | `(tactic| walk_at "binaryOp Add ref ref") => `(tactic| (k_here; (with_reducible show wpAny _ _ (binaryOp _ (Value.ref _) (Value.ref _)) _ _ _); (refine' u_cat ?F ?N ?c ?a ?b ?t ?O ?z (fun D9 h9 n9 O9 F9 N9 => ?_)); (case F => k_asm); (case N => k_asm); (case c => acc_binds); (case a => k_mem); (case b => k_mem); (case t => with_reducible assumption); (case O => acc_keepN); (case z => (simp only [List.length_append, List.length_take, List.length_drop, List.length_cons, List.length_nil]; omega))))
local macro_rules | `(tactic| walk_at "newList") => `(tactic| (k_here; (refine' u_list ?F ?N ?c ?t ?O ?z (fun D9 h9 n9 O9 F9 N9 => ?_)); (case F => k_asm); (case N => k_asm); (case c => acc_binds); (case t => with_reducible assumption); (case O => acc_keepN); (case z => (simp only [List.length_cons, List.length_nil]; omega))))
local macro_rules | `(tactic| walk_at "truthy ref") => `(tactic| (k_here; (with_reducible show wpAny _ _ (truthy (Value.ref _)) _ _ _); (refine' truthy_led ?N ?c ?p ?z ?_); (case N => k_asm); (case c => acc_binds); (case p => k_mem); (case z => first | assumption | omega); (try simp only [List.isEmpty_cons, List.isEmpty_nil, Bool.not_false, Bool.not_true])))
section
example : True := by w_top off; trivial
theorem putOne_sub {row : List Value} {x y : Value} (h : y ∈ putOne row x) : y ∈ row ∨ y = x := by
  unfold putOne at h
  split at h
  · exact .inl h
  · rcases List.mem_append.mp h with h | h
    · rcases List.mem_append.mp h with h | h
      · exact .inl (List.mem_of_mem_take h)
      · exact .inr (List.mem_singleton.mp h)
    · exact .inl (List.mem_of_mem_drop h)
theorem put_sub : ∀ {things row : List Value} {y : Value}, y ∈ put row things → y ∈ row ∨ y ∈ things
  | [], _, _, h => .inl h
  | x :: things, row, y, h => by
    rcases put_sub (things := things) (row := putOne row x) h with h | h
    · rcases putOne_sub h with h | h
      · exact .inl h
      · exact .inr (h ▸ .head _)
    · exact .inr (.tail _ h)
theorem put_take {row things : List Value} {i : Nat} {x : Value} (h : things[i]? = some x) : put row (things.take (i + 1)) = putOne (put row (things.take i)) x := by
  unfold put
  rw [take_snoc h, List.foldl_append]
  rfl
theorem putOne_length (row : List Value) (x : Value) : (putOne row x).length ≤ row.length + 1 := by
  unfold putOne
  split
  · omega
  · rw [List.length_append, List.length_append, List.length_take, List.length_drop, List.length_singleton]; omega
theorem put_length : ∀ (things row : List Value), (put row things).length ≤ row.length + things.length
  | [], _ => Nat.le_refl _
  | x :: things, row => by
    have h1 := put_length things (putOne row x)
    have h2 := putOne_length row x
    show (put (putOne row x) things).length ≤ _
    rw [List.length_cons]
    omega
theorem c_put {w : World} {own : Led} {d row things : List Value} {r l : Addr} {n1 n2 : Nat} (hr : (r, listOf row.toArray n1) ∈ own) (hl : (l, listOf things.toArray n2) ∈ own) (hd : ∀ y ∈ row, y ∈ d) (hd2 : ∀ y ∈ things, y ∈ d) (hT : ∀ y ∈ d, Th y) (hlk : ∀ x ∈ d, ∀ y ∈ d, kd x = kd y → eqV x y = false → ltV x y ≠ Option.none) (hz : row.length + things.length ≤ 400) :
    Con w 325 335 380 [.ref r, .ref l] own (fun v own' => ∃ R n, v = .ref R ∧ (R, listOf (put row things).toArray n) ∈ own' ∧ Kq own own' ∧ (R = r ∨ New own R)) := by
  intro prog A E Q s h₀ L m mg mb env outer fr₁ fr p loose mean hA hf hk F X T N t O k
  refine enterCell (K := Mine.hd.heap_39 w.params) (args := ⟨[.ref r, .ref l], []⟩) (binds := [("row", .ref r), ("things", .ref l)]) hA hf hk F X T N t O (by k_is) (by k_is) (by decide) (BindsTo.of_eq rfl) rfl (by decide +kernel) ?_ rfl rfl rfl
  intro L' h₁ tk₁ fr₂ cells F' N' Y t' Oc O' nc bk
  refine PySem.wpAny_noRaise ?_
  obtain ⟨o1, o2, rfl, d1, d2⟩ := CellsAre.two Y
  have c1 : o1.data = .cell none := d1
  have c2 : o2.data = .cell (some (.ref r)) := d2
  have n1' : New own (L' + 1 + 1) := nc _ (.head _)
  have n2' : New own (L' + 1) := nc _ (.tail _ (.head _))
  have N2 : News h₀ L' h₁ (((L' + 1 + 1, o1) :: (L' + 1, o2) :: own) ++ fr₂) := N'
  have O2 : Off ((L' + 1 + 1, o1) :: (L' + 1, o2) :: own) (env :: outer) := Off.cons (Oc _ (.head _)) (Off.cons (Oc _ (.tail _ (.head _))) O')
  have hC1 : (L' + 1 + 1, o1) ∈ (L' + 1 + 1, o1) :: (L' + 1, o2) :: own := .head _
  have hC2 : (L' + 1, o2) ∈ (L' + 1 + 1, o1) :: (L' + 1, o2) :: own := .tail _ (.head _)
  have kqC : Kq own ((L' + 1 + 1, o1) :: (L' + 1, o2) :: own) := fun p hp => .tail _ (.tail _ hp)
  have F2 : Fr h₀ L' h₁ (fun y => if y = ("things" : Str) then some (.ref l) else none) := F'
  generalize ((L' + 1 + 1, o1) :: (L' + 1, o2) :: own) = ownC at N2 O2 hC1 hC2 kqC
  clear N' Y nc Oc d1 d2 F N t O F' O'
  try dsimp only
  ktr_unf
  unfold Hold
  refine for_list (h₀ := h₀) (L := L') (outer := env :: outer) (fr₁ := fr₂) (vs := things) (l := l) (nn := n2) (fun i m own₁ => ∃ R nn oc1 oc2 v0 u, (L' + 1 + 1, oc1) ∈ own₁ ∧ oc1.data = .cell v0 ∧ (L' + 1, oc2) ∈ own₁ ∧ oc2.data = .cell (some (.ref R)) ∧ (R, listOf (put row (things.take i)).toArray nn) ∈ own₁ ∧ Kq own own₁ ∧ (R = r ∨ New own R) ∧ m = kb [("things", .ref l)] u) rfl ?_ ?_ ?_
  · walk1
    exact ⟨_, _, _, ownC, fr₂, rfl, rfl, by with_reducible assumption, by with_reducible assumption, t', O2, kqC _ hl, r, n1, o1, o2, none, _, hC1, c1, hC2, c2, kqC _ hr, kqC, .inl rfl, (kb_self (by exact ⟨rfl, trivial⟩)).symm⟩
  · rintro I i v m1 own3 fr4 oI h tk hv hl3 ⟨R, nn, oc1, oc2, v0, u, m1c, e1c, m2c, e2c, mR, kq3, hRr, rfl⟩ nI t4 O4 F4 N4
    have hTv : Th v := hT _ (hd2 _ (List.mem_of_getElem? hv))
    refine wpAny_assign_Name (u_cell F4 N4 Cut.b1 (.tail _ m1c) e1c t4 O4 rfl rfl rfl fun h5 own5 oc5 kp5 hm5 he5 O5 F5 N5 => ?_)
    have R1 : R ≠ L' + 1 + 1 := ne_of_objs N4 (.tail _ (List.mem_append_left _ mR)) (.tail _ (List.mem_append_left _ m1c)) (fun q => by rw [← q] at e1c; cases e1c)
    have R2 : R ≠ L' + 1 := ne_of_objs N4 (.tail _ (List.mem_append_left _ mR)) (.tail _ (List.mem_append_left _ m2c)) (fun q => by rw [← q] at e2c; cases e2c)
    clear F4 N4
    have mR5 := kp5 _ (.tail _ mR) R1
    have m2c5 := kp5 _ (.tail _ m2c) (Nat.ne_of_lt (Nat.lt_succ_self _))
    have hcur : ∀ y ∈ put row (things.take i), y ∈ d := fun y hy => (put_sub hy).elim (hd y) fun h => hd2 y (List.mem_of_mem_take h)
    have hcurT : ∀ y ∈ put row (things.take i), Th y := fun y hy => hT y (hcur y hy)
    have hcl : (put row (things.take i)).length ≤ 400 := by
      have q1 := put_length (things.take i) row
      have q2 : (things.take i).length ≤ things.length := by rw [List.length_take]; omega
      omega
    have kI : ∀ {o : Addr × Obj}, o ∈ own3 → o.1 ≠ I := fun ho => nI _ ho
    have kown5 : Kq own own5 := fun p hp => kp5 p (.tail _ (kq3 p hp)) (n1' p hp)
    have nIo : New own I := nI.below kq3
    have mI5 : (I, oI) ∈ own5 := kp5 _ (.head _) (ne_flip (kI m1c))
    have ml5 : (l, listOf things.toArray n2) ∈ own5 := kown5 _ hl
    ktr_unf
    · rename (List.any _ _ = true) => he
      have e1 : put row (things.take (i + 1)) = put row (things.take i) := by
        rw [put_take hv]
        unfold putOne
        exact if_pos he
      exact ⟨h5, _, _, own5, fr4, rfl, F5, N5, t4, O5, mI5, fun p hp => by rw [List.mem_singleton.mp hp]; exact ml5, R, nn, oc5, oc2, _, u, List.mem_filter.mpr ⟨hm5, by simpa using kI m1c⟩, he5, List.mem_filter.mpr ⟨m2c5, by simpa using kI m2c⟩, e2c, List.mem_filter.mpr ⟨e1 ▸ mR5, by simpa using kI mR⟩, kown5.toF nIo, hRr, rfl⟩
    · unfold Hold
      rename (List.any _ _ = false) => he
      refine LCt.Assign_ListComp_T (F₀ := F5) (by rfl) (by with_unfolding_all rfl) (by with_unfolding_all rfl) (by decide) (by rfl) (by decide) (by rfl) (by rfl) (by rfl) ?_
      ktr_unf
      unfold Hold
      (rename Fr h₀ L' _ _ => F6; rename News h₀ L' _ _ => N6; rename IsRange _ _ _ _ _ _ _ _ => hR)
      clear mR
      generalize hcu : put row (things.take i) = cur at he hcur hcurT hcl mR5 F6 N6 hR ⊢
      refine LCt.CompSrcT.range (n := cur.length) rfl F6 N6 hR (small_n (by omega)) (range_n _) (sizeLine_ge (by omega)) fun g => ?_
      clear F6 N6 hR
      refine comp_restT (fun j ys nw => ∃ fr' ks, nw = own5 ++ fr' ∧ Tl (env :: outer) fr₂ fr' ∧ ys = numsV ks ∧ ks.map (·.1) = (List.range j).filter fun k => kd (cur.getD k .none) == kd v) ⟨fr4, [], rfl, t4, rfl, rfl⟩ ?_ ?_
      · rintro ys nw ⟨fr', ks, rfl, t6, rfl, hks⟩ D h tk F7 N7 off7
        have hka : ks.map (·.1) = alike cur v := hks
        have nD : New own5 D := fun p hp => off1_mem off7 p (List.mem_append_left _ hp)
        obtain ⟨own6, e6⟩ : ∃ o : Led, o = (D, listOf (numsV ks).toArray (numsV ks).length) :: own5 := ⟨_, rfl⟩
        have O6 : Off own6 (env :: outer) := e6 ▸ Off.cons (off1_frs off7 t6) O5
        have mD : (D, listOf (numsV ks).toArray (numsV ks).length) ∈ own6 := e6 ▸ .head _
        have kq6 : Kq own5 own6 := fun p hp => e6 ▸ .tail _ hp
        have N6 : News h₀ L' h (own6 ++ fr') := by rw [e6]; exact N7
        clear N7 off7 e6
        dsimp only
        have hnl : (numsV ks).length ≤ 400 := by
          have q1 : (numsV ks).length = (ks.map (·.1)).length := by simp [numsV]
          have q2 := List.length_filter_le (fun k => kd (cur.getD k .none) == kd v) (List.range cur.length)
          rw [List.length_range] at q2
          rw [q1, hks]
          omega
        rcases ks with _ | ⟨⟨k0, t0⟩, ks⟩
        · have hpl : place cur v = cur.length := by
            unfold place
            rw [← hka]
            rfl
          change (D, listOf ([] : List Value).toArray 0) ∈ own6 at mD
          change ([] : List Value).length ≤ 400 at hnl
          ktr_unf
          refine u_cell (by k_asm) (by k_asm) (by acc_binds) (by k_mem : (L' + 1, oc2) ∈ _) e2c (by with_reducible assumption) (by acc_keepN) rfl rfl rfl fun h9 own9 oc9 kp9 hm9 he9 O9 F9 N9 => ?_
          (rename (New (_ :: _) _) => nZ)
          have e1 : put row (things.take (i + 1)) = cur.take (place cur v) ++ [v] ++ cur.drop (place cur v) := by
            rw [put_take hv, hcu]
            unfold putOne
            exact if_neg (by unfold anyV; rw [he]; exact Bool.false_ne_true)
          rw [hpl] at e1
          have k96 : Kp (L' + 1) own6 own9 := fun p hp n => kp9 p (.tail _ (.tail _ (.tail _ (.tail _ (.tail _ hp))))) n
          have nZ6 : New own6 _ := nZ.below fun p hp => .tail _ (.tail _ (.tail _ (.tail _ hp)))
          have kown9 : Kq own own9 := fun p hp => k96 p (kq6 p (kown5 p hp)) (n2' p hp)
          have nZ5 := nZ6.below kq6
          have mI9 := k96 _ (kq6 _ mI5) (ne_flip (kI m2c))
          have hm59 := k96 _ (kq6 _ hm5) (Nat.ne_of_gt (Nat.lt_succ_self _))
          have mZ := kp9 _ (.head _) (ne_flip (nZ5 _ m2c5))
          ktr_unf
          exact ⟨h9, _, _, own9, fr', rfl, F9, N9, by with_reducible assumption, O9, mI9, fun p hp => by rw [List.mem_singleton.mp hp]; exact kown9 _ hl, _, 0, oc5, oc9, _, _, List.mem_filter.mpr ⟨hm59, by simpa using kI m1c⟩, he5, List.mem_filter.mpr ⟨hm9, by simpa using kI m2c⟩, he9, List.mem_filter.mpr ⟨e1 ▸ mZ, by simpa using ne_flip (nZ5 _ mI5)⟩, kown9.toF nIo, .inr (nZ5.below kown5), (kb_self (by exact ⟨rfl, trivial⟩)).symm⟩
        · change (D, listOf (Value.int (k0 : Nat) t0 :: numsV ks).toArray (Value.int (k0 : Nat) t0 :: numsV ks).length) ∈ own6 at mD
          change (Value.int (k0 : Nat) t0 :: numsV ks).length ≤ 400 at hnl
          have hall : ∀ p ∈ (k0, t0) :: ks, p.1 < cur.length ∧ kd (cur.getD p.1 .none) = kd v := fun p hp => by
            have q : p.1 ∈ alike cur v := hka ▸ List.mem_map_of_mem hp
            obtain ⟨q1, q2⟩ := List.mem_filter.mp q
            exact ⟨List.mem_range.mp q1, by simpa using q2⟩
          have hvd : v ∈ d := hd2 _ (List.mem_of_getElem? hv)
          have hlt : ∀ p ∈ (k0, t0) :: ks, ltV (cur.getD p.1 .none) v ≠ Option.none := fun p hp => by
            have q := List.any_eq_false.mp he (cur.getD p.1 .none) (getD_in (hall p hp).1)
            exact hlk _ (hcur _ (getD_in (hall p hp).1)) _ hvd (hall p hp).2 (by simpa using q)
          have hbl : ((((k0, t0) :: ks).filter fun p => ltV (cur.getD p.1 .none) v == some true)).length = (below cur v).length := by
            unfold below
            rw [← hka, List.filter_map, List.length_map]
            rfl
          have hpl : ((k0 : Nat) : Int) + (((numsV (((k0, t0) :: ks).filter fun p => ltV (cur.getD p.1 .none) v == some true)).length : Nat) : Int) = ((place cur v : Nat) : Int) := by
            unfold place
            rw [← hka]
            show _ = ((k0 + (below cur v).length : Nat) : Int)
            rw [← hbl, numsV, List.length_map]
            omega
          ktr_unf
          unfold Hold
          (rename Fr h₀ L' _ _ => F8; rename News h₀ L' _ _ => N8)
          refine LCt.ListComp_T F8 (by with_unfolding_all rfl) (by decide) (by rfl) (by decide) (by rfl) ?_
          ktr_unf
          unfold Hold
          (rename Fr h₀ L' _ _ => F9; rename News h₀ L' _ _ => N9)
          refine LCt.CompSrcT.ledger (its := (Value.int (k0 : Nat) t0 :: numsV ks).toArray) rfl F9 N9 (List.mem_append_left _ mD) (by rw [List.size_toArray]; exact sizeLine_ge (by omega)) fun g => ?_
          have hsz : (Value.int (k0 : Nat) t0 :: numsV ks).toArray.size = ((k0, t0) :: ks).length := by simp [numsV]
          rw [hsz]
          clear F9 N9
          refine comp_restT (fun j ys nw => nw = own6 ++ fr' ∧ ys = numsV ((((k0, t0) :: ks).take j).filter fun p => ltV (cur.getD p.1 .none) v == some true)) ⟨rfl, rfl⟩ ?_ ?_
          · rintro ys nw ⟨rfl, rfl⟩ D2 h tk F9 N9 off9
            rw [List.take_length] at N9
            have hbz : (numsV (((k0, t0) :: ks).filter fun p => ltV (cur.getD p.1 .none) v == some true)).length ≤ 400 := by
              have q1 := List.length_filter_le (fun p : Nat × Tok => ltV (cur.getD p.1 .none) v == some true) ((k0, t0) :: ks)
              have q2 : (Value.int (k0 : Nat) t0 :: numsV ks).length = ((k0, t0) :: ks).length := by simp [numsV]
              rw [numsV, List.length_map]
              omega
            have hple : place cur v ≤ cur.length := by
              have q1 : k0 + (ks.length + 1) ≤ cur.length := by
                have q := filter_room _ _ _ hks.symm
                rw [List.length_map] at q
                exact q
              have q2 := List.length_filter_le (fun p : Nat × Tok => ltV (cur.getD p.1 .none) v == some true) ((k0, t0) :: ks)
              rw [List.length_cons] at q2
              rw [numsV, List.length_map] at hpl
              omega
            generalize (numsV (((k0, t0) :: ks).filter fun p => ltV (cur.getD p.1 .none) v == some true)) = bl at hbz hpl N9
            obtain ⟨own7, e7⟩ : ∃ o : Led, o = (D2, listOf bl.toArray bl.length) :: own6 := ⟨_, rfl⟩
            have O7 : Off own7 (env :: outer) := e7 ▸ Off.cons (off1_frs off9 t6) O6
            have mD7 : (D2, listOf bl.toArray bl.length) ∈ own7 := e7 ▸ .head _
            have kq7 : Kq own5 own7 := fun p hp => e7 ▸ .tail _ (kq6 _ hp)
            have N7 : News h₀ L' h (own7 ++ fr') := by rw [e7]; exact N9
            clear N9 off9 e7
            dsimp only
            ktr_unf
            refine u_cell (by k_asm) (by k_asm) (by acc_binds) (by k_mem : (L' + 1, oc2) ∈ _) e2c (by with_reducible assumption) (by acc_keepN) rfl rfl rfl fun h9 own9 oc9 kp9 hm9 he9 O9 F9 N9 => ?_
            (rename (New (_ :: _) _) => nZ)
            have e1 : put row (things.take (i + 1)) = cur.take (place cur v) ++ [v] ++ cur.drop (place cur v) := by
              rw [put_take hv, hcu]
              unfold putOne
              exact if_neg (by unfold anyV; rw [he]; exact Bool.false_ne_true)
            have hpn : k0 + bl.length = place cur v := by omega
            rw [← hpn] at e1
            have k96 : Kp (L' + 1) own7 own9 := fun p hp n => kp9 p (.tail _ (.tail _ (.tail _ (.tail _ (.tail _ hp))))) n
            have nZ6 : New own7 _ := nZ.below fun p hp => .tail _ (.tail _ (.tail _ (.tail _ hp)))
            have kown9 : Kq own own9 := fun p hp => k96 p (kq7 p (kown5 p hp)) (n2' p hp)
            have nZ5 := nZ6.below kq7
            have mI9 := k96 _ (kq7 _ mI5) (ne_flip (kI m2c))
            have hm59 := k96 _ (kq7 _ hm5) (Nat.ne_of_gt (Nat.lt_succ_self _))
            have mZ := kp9 _ (.head _) (ne_flip (nZ5 _ m2c5))
            ktr_unf
            exact ⟨h9, _, _, own9, fr', rfl, F9, N9, by with_reducible assumption, O9, mI9, fun p hp => by rw [List.mem_singleton.mp hp]; exact kown9 _ hl, _, 0, oc5, oc9, _, _, List.mem_filter.mpr ⟨hm59, by simpa using kI m1c⟩, he5, List.mem_filter.mpr ⟨hm9, by simpa using kI m2c⟩, he9, List.mem_filter.mpr ⟨e1 ▸ mZ, by simpa using ne_flip (nZ5 _ mI5)⟩, kown9.toF nIo, .inr (nZ5.below kown5), (kb_self (by exact ⟨rfl, trivial⟩)).symm⟩
          · rintro j ys nw hj ⟨rfl, rfl⟩ v' I2 oI2 C oC D2 m₂ h tk E' hP hns hm F9 N9 off9 ne9
            obtain ⟨p, hp, rfl⟩ : ∃ p : Nat × Tok, ((k0, t0) :: ks)[j]? = some p ∧ v' = .int (p.1 : Nat) p.2 := by
              refine ⟨((k0, t0) :: ks)[j], List.getElem?_eq_getElem hj, ?_⟩
              have q : (numsV ((k0, t0) :: ks))[j]? = some v' := by simpa [numsV] using hP
              rw [numsV, List.getElem?_map, List.getElem?_eq_getElem hj] at q
              exact (Option.some.inj q).symm
            have hpm := List.mem_of_getElem? hp
            have hpk := (hall p hpm).1
            have hS : LCg.SrcAt h₀ D (Value.int (k0 : Nat) t0 :: numsV ks).toArray (own6 ++ fr') := .inr ⟨_, List.mem_append_left _ mD, rfl, _, rfl⟩
            ktr_unf
            · (rename (ltV _ _ = some _) => hr1; rename (_ = true) => hr2)
              subst hr2
              exact ⟨_, _, _, rfl, by k_asm, by k_asm, off9, hS, rfl, by rw [take_snocG hp, List.filter_append, List.filter_cons_of_pos (p := fun q : Nat × Tok => ltV (cur.getD q.1 .none) v == some true) (a := p) (beq_iff_eq.mpr hr1), List.filter_nil]; simp [numsV]⟩
            · (rename (ltV _ _ = some _) => hr1; rename (_ = false) => hr2)
              subst hr2
              exact ⟨_, _, _, rfl, by k_asm, by k_asm, off9, hS, rfl, by rw [take_snocG hp, List.filter_append, List.filter_cons_of_neg (p := fun q : Nat × Tok => ltV (cur.getD q.1 .none) v == some true) (a := p) (by simp only [hr1]; decide), List.filter_nil, List.append_nil]⟩
            · rename (ltV _ _ = Option.none) => hr1
              exact absurd hr1 (hlt p hpm)
      · rintro j ys nw hj ⟨fr', ks, rfl, t6, rfl, hks⟩ v' I2 oI2 C oC D m₂ h tk E' ⟨tt, hvv⟩ hns hm F7 N7 off7 ne7
        rw [Int.zero_add] at hvv
        subst hvv
        have O7 := off3_off (oI := oI2) (oC := oC) (oD := LCg.lst (numsV ks)) off7 t6 O5
        have hvj : cur[j]? = some (cur.getD j .none) := by rw [List.getD_eq_getElem?_getD, List.getElem?_eq_getElem hj]; rfl
        have hTj : Th (cur.getD j .none) := hcurT _ (List.mem_of_getElem? hvj)
        ktr_unf
        · (rename (_ = _) => he; rename News h₀ L' _ _ => N9; rename Fr h₀ L' _ _ => F9; rename Tl _ _ _ => T9)
          have he' : kd (cur.getD j .none) = kd v := by omega
          exact ⟨_, _, _, rfl, F9, N9, off3_next off7 t6 T9, trivial, _, ks ++ [(j, tt)], rfl, T9, by simp [numsV], by rw [List.map_append]; exact snoc_t hks (beq_iff_eq.mpr he')⟩
        · (rename (_ ≠ _) => he; rename News h₀ L' _ _ => N9; rename Fr h₀ L' _ _ => F9; rename Tl _ _ _ => T9)
          have he' : kd (cur.getD j .none) ≠ kd v := by omega
          exact ⟨_, _, _, rfl, F9, N9, off3_next off7 t6 T9, trivial, _, ks, rfl, T9, rfl, snoc_f hks (beq_eq_false_iff_ne.mpr he')⟩
  · rintro m1 own3 fr4 h tk ⟨R, nn, oc1, oc2, v0, u, m1c, e1c, m2c, e2c, mR, kq3, hRr, rfl⟩ t4 O4 F4 N4
    rw [List.take_length] at mR
    ktr_unf
    acc_keep
    exact ⟨R, nn, rfl, mR, kq3, hRr⟩
end
section
example : True := by w_top off; trivial
section
variable {prog : Program} {w : World} {A : Around} {E : Value → Shared → Prop} {s : Shared} {env : Env} {h₀ : Heap} {body : List Stmt} {Q : Flow → Shared → Prop} {L : Addr}
/-- a for loop over a range by ones, whatever its target -/
theorem for_range {target iter : Expr} {pos : PySem.Pos} {a b : Int} {nn : Nat} {outer : List Env} {fr₁ : Led} (J : Nat → (Str → Option Value) → Led → Prop) (hh : A.handled = none) (hsm : Builtin.Range.small a b 1 = true) (hrs : Builtin.Range.rangeSize a b 1 = ((nn : Nat) : Int))
    (hiter : wpAny (model prog w) A (eval iter env) (fun xv s₁ => Hold (∃ l h tk m₀ own fr, xv = .ref l ∧ s₁ = { s with heap := h, toks := tk } ∧ Fr h₀ L h m₀ ∧ News h₀ L h (own ++ fr) ∧ Tl outer fr₁ fr ∧ Off own outer ∧ (∃ tt uu vv, IsRange h l a b 1 tt uu vv) ∧ J 0 m₀ own)) E s)
    (turn : ∀ I i v m₁ own₁ fr₂ oI h tk, i < nn → (∃ t, v = .int (a + (i : Int)) t) → J i m₁ own₁ → New own₁ I → Tl outer fr₁ fr₂ → Off ((I, oI) :: own₁) outer → Fr h₀ L h m₁ → News h₀ L h ((I, oI) :: (own₁ ++ fr₂)) →
      wpAny (model prog w) A (assign target env v) (fun _ s₂ => wpAny (model prog w) A (execs body env) (TurnEndG h₀ L outer fr₁ I oI [] (J (i + 1)) { s with heap := h, toks := tk } Q) E s₂) E { s with heap := h, toks := tk })
    (done : ∀ m₁ own₁ fr₂ h tk, J nn m₁ own₁ → Tl outer fr₁ fr₂ → Off own₁ outer → Fr h₀ L h m₁ → News h₀ L h (own₁ ++ fr₂) → Q .next { s with heap := h, toks := tk })
    (hs : ∀ x, foldedSetIterable iter env x = pure x := by intro _; rfl) (ht : ∀ it v, letOwnedTupleGo target it v = pure () := by intro _ _; rfl) (hE : PassesOwn (model prog w) A env E := by passes_own) :
    wpAny (model prog w) A (exec (.For target iter body [] pos) env) Q E s := by
  refine wpAny_For (wpAny_mono hiter (fun xv s₁ h₁ => ?_) fun _ _ e => e) hs
  obtain ⟨l, h, tk, m₀, own, fr, rfl, rfl, F, N, t, O, ⟨tt, uu, vv, hl⟩, hj⟩ := h₁
  refine wpAny_pyIter_range (s := { s with heap := h, toks := tk }) hl hsm ?_
  rw [hrs]
  have hlt : ∀ p ∈ own ++ fr, p.1 < h.objs.size := fun p hp => Heap.lt_size (N p hp).1
  have W := LCg.range_walks (prog := prog) (w := w) (I := h.objs.size) hh a nn
  have hI0 : h₀.get? h.objs.size = none := next_is_new F
  have hIL : L ≠ h.objs.size := Nat.ne_of_lt F.ns.lt
  have hIf0 : h.objs.size ∉ frs outer := off_new (allLt_of hlt) t
  have nI0 : New own h.objs.size := fun p hp => Nat.ne_of_lt (hlt p (List.mem_append_left _ hp))
  have hfrI : ∀ {fr' : Led}, Tl outer fr₁ fr' → ∀ p ∈ fr', p.1 ≠ h.objs.size := fun t' p hp e => hIf0 (by rw [frs, t'.1.addrs, ← e]; exact List.mem_map_of_mem hp)
  have F0 : Fr h₀ L (h.push { cls := .type "range_iterator", data := .fields #[rawInt a, rawInt (nn : Int), rawInt 1] }) m₀ := F.push _
  have N0 : News h₀ L (h.push { cls := .type "range_iterator", data := .fields #[rawInt a, rawInt (nn : Int), rawInt 1] }) (own ++ fr) := fun p hp => ⟨Heap.get?_push_of_some _ (N p hp).1, (N p hp).2⟩
  have st0 : IsRangeIter (h.push { cls := .type "range_iterator", data := .fields #[rawInt a, rawInt (nn : Int), rawInt 1] }) h.objs.size (a + ((0 : Nat) : Nat) * 1) ((nn : Int) - ((0 : Nat) : Nat)) 1 := by simpa using Heap.get?_push_size _ rfl
  clear N F
  generalize h.push { cls := .type "range_iterator", data := .fields #[rawInt a, rawInt (nn : Int), rawInt 1] } = h1 at F0 N0 st0 ⊢
  generalize h.objs.size = I at W hI0 hIL hIf0 hlt nI0 hfrI st0 ⊢
  refine codeAny_forLoop (fun k s' => ∃ h' tk' i m' own' fr', s' = { s with heap := h', toks := tk' } ∧ i ≤ nn ∧ k = nn + 1 - i ∧ IsRangeIter h' I (a + (i : Nat) * 1) ((nn : Int) - (i : Nat)) 1 ∧ Fr h₀ L h' m' ∧ News h₀ L h' (own' ++ fr') ∧ Tl outer fr₁ fr' ∧ Off own' outer ∧ New own' I ∧ J i m' own') ?_ (nn + 1)
    ⟨h1, tk, 0, m₀, own, fr, rfl, Nat.zero_le _, rfl, st0, F0, N0, t, O, nI0, hj⟩ (ht _)
  rintro k s' ⟨h', tk', i, m', own', fr', rfl, hi, rfl, st, F', N', t', O', nI, hJ⟩
  have next : ∀ h₂ : Heap, (∀ b o, b ∉ [I] → h'.get? b = some o → h₂.get? b = some o) → Fr h₀ L h₂ m' ∧ News h₀ L h₂ (own' ++ fr') := fun h₂ hk₂ => by
    have hne : ∀ b, b ≠ I → b ∉ [I] := fun b hb hm => hb (List.mem_singleton.mp hm)
    obtain ⟨oL, es, ep, hL, hr⟩ := F'.ns
    refine ⟨⟨⟨oL, es, ep, hk₂ _ _ (hne _ hIL) hL, hr⟩, fun b o e => hk₂ b o (hne _ fun q => by rw [q, hI0] at e; cases e) (F'.keep b o e), F'.above⟩, fun p hp => ⟨hk₂ _ _ (hne _ ?_) (N' p hp).1, (N' p hp).2⟩⟩
    rcases List.mem_append.mp hp with hp | hp
    · exact nI p hp
    · exact hfrI t' p hp
  by_cases hlt' : i < nn
  · refine W.item i _ _ _ hlt' st fun v h₂ tk₂ hP st₂ hk₂ => ?_
    obtain ⟨F₂, N₂⟩ := next h₂ hk₂
    obtain ⟨oI, hoI⟩ : ∃ o, h₂.get? I = some o := ⟨_, st₂⟩
    have st₃ : some oI = some _ := hoI.symm.trans st₂
    have N₃ : News h₀ L h₂ ((I, oI) :: (own' ++ fr')) := fun p hp => by
      rcases List.mem_cons.mp hp with e | hp
      · rw [e]; exact ⟨hoI, Ne.symm hIL, hI0⟩
      · exact N₂ p hp
    refine wpAny_passesOwn hE (wpAny_mono (turn I i v m' own' fr' oI h₂ tk₂ hlt' hP hJ nI t' (Off.cons hIf0 O') F₂ N₃) (fun _ s₂ hq => wpAny_passesOwn hE (wpAny_mono hq (fun f s₃ p => ?_) fun _ _ e => e)) fun _ _ e => e)
    have fin : (∃ h' tk m' own'' fr'', s₃ = { s with heap := h', toks := tk } ∧ Fr h₀ L h' m' ∧ News h₀ L h' (own'' ++ fr'') ∧ Tl outer fr₁ fr'' ∧ Off own'' outer ∧ (I, oI) ∈ own'' ∧ Kq [] own'' ∧ J (i + 1) m' (own''.filter fun p => decide (p.1 ≠ I))) →
        ∃ k, k < nn + 1 - i ∧ ∃ h' tk' i m' own' fr', s₃ = { s with heap := h', toks := tk' } ∧ i ≤ nn ∧ k = nn + 1 - i ∧ IsRangeIter h' I (a + (i : Nat) * 1) ((nn : Int) - (i : Nat)) 1 ∧ Fr h₀ L h' m' ∧ News h₀ L h' (own' ++ fr') ∧ Tl outer fr₁ fr' ∧ Off own' outer ∧ New own' I ∧ J i m' own' := by
      rintro ⟨h₃, tk₃, m₃, own₃, fr₃, e, F₃, N₃', t₃, O₃, hI₃, kk, hJ₃⟩
      have g1 := (N₃' _ (List.mem_append_left _ hI₃)).1
      refine ⟨nn + 1 - (i + 1), by omega, h₃, tk₃, i + 1, m₃, own₃.filter (fun p => decide (p.1 ≠ I)), fr₃, e, hlt', rfl, g1.trans st₃, F₃, fun p hp => ?_, t₃, fun p hp => O₃ p (List.mem_filter.mp hp).1, fun p hp => by simpa using (List.mem_filter.mp hp).2, hJ₃⟩
      rcases List.mem_append.mp hp with hp | hp
      · exact N₃' p (List.mem_append_left _ (List.mem_filter.mp hp).1)
      · exact N₃' p (List.mem_append_right _ hp)
    cases f with
    | ret v => exact p
    | brk => exact p
    | next => exact fin p
    | cont => exact fin p
  · obtain rfl : i = nn := Nat.le_antisymm hi (Nat.not_lt.mp hlt')
    refine W.done _ _ _ st fun h₂ tk₂ hk₂ => ?_
    obtain ⟨F₂, N₂⟩ := next h₂ hk₂
    exact wpAny_execs_nil (done m' own' fr' h₂ tk₂ hJ t' O' F₂ N₂)
end
end
section
example : True := by w_top off; trivial
def lawFD : Option (List Stmt × Scope) := match PySem.Challenge.pw_vj0003_01.main.body.getLast? with
  | some (.FunctionDef _ _ b _ _ _ sc _ _ _) => some (b, sc)
  | _ => none
def lawBody : List Stmt := match lawFD with | some p => p.1 | none => []
def lawScope : Scope := match lawFD with | some p => p.2 | none => default
def loopBody : List Stmt := match lawBody.drop 3 with | .For _ _ b _ _ :: _ => b | _ => []
def branch : Nat → List Stmt → List Stmt
  | 0, [.If _ b _ _] => b
  | n + 1, [.If _ _ e _] => branch n e
  | _, l => l
def chain : List Stmt := match loopBody.drop 3 with | s :: _ => [s] | [] => []
/-- what a block of the law does -/
def Blk (w : World) (blk : List Stmt) (b : List (Str × Value)) (own : Led) (R : List (Str × Value) → Led → Prop) : Prop :=
  ∀ {sc : Scope} {prog : Program} {Q : Flow → Shared → Prop} {s : Shared} {h₀ : Heap} {L fa : Addr} {cd : Value} {mg mb u : Str → Option Value} {p : Program} {loose : List Str} {mean : ExcName → Option Value} {fr₁ fr : Led},
    sc = lawScope → Fr h₀ L s.heap (kb b u) → (Mine.hd.heap_39 w.params).In h₀ → Top p loose mean mg mb h₀ → News h₀ L s.heap (own ++ fr) → Tl [] fr₁ fr → Off own [] →
    (∀ h' tk' own' fr' b' u', Tl [] fr₁ fr' → Fr h₀ L h' (kb b' u') → News h₀ L h' (own' ++ fr') → Off own' [] → R b' own' → Q .next { s with heap := h', toks := tk' }) →
    wpAny (model prog w) (AC 302 7 [envOfC "law" sc L fa cd]) (execs blk (envOfC "law" sc L fa cd)) Q (fun _ _ => False) s
end
section
example : True := by w_top off; trivial
theorem fr_binds {h₀ h : Heap} {L : Addr} {m : Str → Option Value} {ps : List (Str × Value)} (F : Fr h₀ L h m) (hb : kbOk m ps) : Fr h₀ L h (kb ps m) := by rw [kb_self hb]; exact F
theorem item_at {prog : Program} {w : World} {A : Around} {E Q : Value → Shared → Prop} {s : Shared} {h₀ : Heap} {L l : Addr} {news : List (Addr × Obj)} {xs : List Value} {n k : Nat} {value slice : PySem.Expr} {i : Int} {u : Tok} {v : Value} (N : News h₀ L s.heap news) (hl : (l, listOf xs.toArray n) ∈ news) (hi : i = (k : Int)) (hv : xs.getD k .none = v) (hk : k < xs.length) (hz : xs.length ≤ 1000)
    (h : Q v s) (hs : subscripted slice false (.ref l) (.int i u) = operate [.ref l, .int i u] (getItem (.ref l) (.int i u)) := by with_unfolding_all rfl) :
    wpAny (model prog w) A (subscriptTail value slice (.ref l) (.int i u)) Q E s := item_led N hl hi hk hz (hv ▸ h) hs
/-- what holds ahead of a deed: the one set and its row, the other set and its row -/
structure DIn (d : List Value) (own : Led) (P : Addr) (pv : List Value) (k k' : Nat) (S D Ls T E Lt r q : Addr) (xs ys : List Value) (nr nq np : Nat) : Prop where
  dom : Dom d
  tc : ∀ y ∈ d, Tc y
  dl : d.length ≤ 8
  s1 : SetAt own S D Ls xs
  s2 : SetAt own T E Lt ys
  hr : (r, listOf xs.toArray nr) ∈ own
  hq : (q, listOf ys.toArray nq) ∈ own
  hP : (P, listOf pv.toArray np) ∈ own
  kl : k < pv.length
  kl' : k' < pv.length
  pl : pv.length ≤ 1000
  p1 : pv.getD k .none = .ref S
  p2 : pv.getD k' .none = .ref T
  hk : 1 - (k : Int) = (k' : Int)
  gx : Good d xs
  gy : Good d ys
  nL : T ≠ Ls ∧ E ≠ Ls ∧ Lt ≠ Ls ∧ r ≠ Ls ∧ q ≠ Ls ∧ P ≠ Ls
  nD : T ≠ D ∧ E ≠ D ∧ Lt ≠ D ∧ r ≠ D ∧ q ≠ D ∧ P ≠ D
  nP : S ≠ P ∧ D ≠ P ∧ T ≠ P ∧ E ≠ P ∧ Lt ≠ P ∧ r ≠ P ∧ q ≠ P
abbrev bIn (P W NL : Addr) (TT x : Value) (r q : Addr) (k : Nat) (n : Int) (t tn t1 t2 : Tok) : List (Str × Value) :=
  [("pair", .ref P), ("rows", .ref W), ("numbers", .ref NL), ("things", TT), ("who", .int (k : Nat) t), ("thing", x), ("n", .int n tn), ("mine", .ref r), ("other", .ref q), ("told", .str (Str.ofString "") t1), ("due", .str (Str.ofString "") t2)]
abbrev bOut (P W NL : Addr) (TT : Value) (r : Addr) (k : Nat) (t : Tok) (told due : Value) : List (Str × Value) :=
  [("pair", .ref P), ("rows", .ref W), ("numbers", .ref NL), ("things", TT), ("who", .int (k : Nat) t), ("mine", .ref r), ("told", told), ("due", due)]
/-- what holds behind a deed -/
abbrev DOut (d : List Value) (own : Led) (P W NL : Addr) (TT : Value) (pv : List Value) (k : Nat) (t : Tok) (S D Ls r : Addr) (b' : List (Str × Value)) (own' : Led) : Prop :=
  ∃ zs Ls' r' nr np told due, b' = bOut P W NL TT r' k t told due ∧ SetAt own' S D Ls' zs ∧ (r', listOf zs.toArray nr) ∈ own' ∧ (P, listOf pv.toArray np) ∈ own' ∧ (∀ p ∈ own, p.1 ≠ D → p.1 ≠ Ls → p.1 ≠ P → p ∈ own') ∧ (Ls' = Ls ∨ New own Ls') ∧ (r' = r ∨ New own r') ∧ r' ≠ Ls' ∧ eqV told due = true ∧ Th told ∧ Th due ∧ Good d zs
theorem good_len {d xs : List Value} (D : Dom d) (g : Good d xs) (h : d.length ≤ 8) : xs.length ≤ 8 := Nat.le_trans (nodup_le (g.nodup D) g.mem) h
theorem dom_lt {d : List Value} (D : Dom d) : ∀ x ∈ d, ∀ y ∈ d, kd x = kd y → eqV x y = false → ltV x y ≠ Option.none := fun x hx y hy hk he hl => by
  rcases (D.kn x hx y hy).mp hl with h | h
  · exact h hk
  · have := D.one x hx y hy h (hk ▸ h)
    subst this
    rw [D.rfl' x hx] at he
    cases he
theorem sin_mem {d : List Value} {x : Value} (h : x ∈ d) : ∀ y ∈ [x], y ∈ d := fun y hy => by rw [List.mem_singleton.mp hy]; exact h
theorem eq_str (x : Str) (t u : Tok) : eqV (.str x t) (.str x u) = true := beq_self_eq_true x
theorem mem_th {d xs : List Value} (h : ∀ y ∈ d, Th y) (g : ∀ y ∈ xs, y ∈ d) : ∀ y ∈ xs, Th y := fun y hy => h y (g y hy)
theorem ConX.use {w : World} {f : Addr} {D U : Nat} {args : List Value} {own : Led} {X : String} {R : Value → Led → Prop} {C : Prop} (c : ConX w f D U args own X R C)
    {prog : Program} {A : Around} {E Q : Value → Shared → Prop} {s : Shared} {h₀ : Heap} {L : Addr} {m mg mb : Str → Option Value} {env : Env} {outer : List Env} {fr₁ fr news : Led} {p : Program} {loose : List Str} {mean : ExcName → Option Value}
    (hA : Fits A D U (env :: outer)) (hf : env.frame = some L) (hk : env.scope.kind = .function) (F : Fr h₀ L s.heap m) (X₀ : (Mine.hd.heap_39 w.params).In h₀) (T : Top p loose mean mg mb h₀) (N : News h₀ L s.heap news) (hc : Cut news own fr) (t : Tl outer fr₁ fr) (O : Off own outer)
    (k : ∀ (v : Value) (h' : Heap) (tk' : Nat) (own' fr' : Led), Tl outer fr₁ fr' → Fr h₀ L h' m → News h₀ L h' (own' ++ fr') → Off own' outer → R v own' → Q v { s with heap := h', toks := tk' })
    (kE : ∀ (e tb : Addr) (oe : Obj) (vs tvs : Array Value) (h' : Heap) (tk' : Nat) (fr' : Led), C → Tl outer fr₁ fr' → Fr h₀ L h' m → News h₀ L h' ((e, oe) :: (tb, tbObj tvs) :: (own ++ fr')) →
      Off ((e, oe) :: (tb, tbObj tvs) :: own) outer → e ≠ tb → oe.cls = .type X → oe.data = .fields vs → vs[1]? = some (.ref tb) → tvs[3]? = some .none → New own e → New own tb → E (.ref e) { s with heap := h', toks := tk' }) :
    wpAny (model prog w) A (call (.ref f) args) Q E s := by
  unfold Cut at hc
  subst hc
  exact c hA hf hk F X₀ T N t O k kE
section
variable {prog : Program} {w : World} {A : Around} {E : Value → Shared → Prop} {s : Shared} {h₀ : Heap} {L l : Addr} {m : Str → Option Value} {outer : List Env} {own fr₁ fr news : Led} {ys zs : List Value} {n j : Nat} {i : Int} {u : Tok} {v : Value}
theorem getitem_at {Q : Value → Shared → Prop} (N : News h₀ L s.heap news) (hl : (l, listOf ys.toArray n) ∈ news) (hi : i = (j : Int)) (hv : ys.getD j .none = v) (hk : j < ys.length) (hz : ys.length ≤ 1000) (h : Q v s) : wpAny (model prog w) A (getItem (.ref l) (.int i u)) Q E s := by
  subst hi
  subst hv
  have il : s.heap.IsList l ys.toArray := ⟨_, (N _ hl).1, rfl, n, rfl⟩
  refine wpAny_getItem_list (x := ys.getD j .none) il (by omega) (by omega) ?_ h
  simp [List.getD, hk]
theorem u_setitem {Q : Unit → Shared → Prop} (F : Fr h₀ L s.heap m) (N : News h₀ L s.heap news) (hc : Cut news own fr) (hl : (l, listOf ys.toArray n) ∈ own) (t : Tl outer fr₁ fr) (O : Off own outer) (hi : i = (j : Int)) (hj : j < ys.length) (he : ys.set j v = zs) (hz : ys.length ≤ 1000)
    (k : ∀ h' own' n', Kp l own own' → (l, listOf zs.toArray n') ∈ own' → Off own' outer → Fr h₀ L h' m → News h₀ L h' (own' ++ fr) → Q () { s with heap := h' }) : wpAny (model prog w) A (setItem (.ref l) (.int i u) v) Q E s := by
  subst hi
  subst he
  refine ki_setAt (N _ (hc.mem hl)).1 (by omega) (by omega) (by rw [List.size_toArray]; omega) ?_
  exact list_turn (Q := fun _ s => Q () s) _ (ys.set j v) F N hc hl t O (by simp) .none k
/-- the last one of a list -/
theorem item_last {Q : Value → Shared → Prop} {value slice : PySem.Expr} (N : News h₀ L s.heap news) (hl : (l, listOf ys.toArray n) ∈ news) (hk : 0 < ys.length) (hz : ys.length ≤ 1000) (h : Q (ys.getD (ys.length - 1) .none) s)
    (hs : subscripted slice false (.ref l) (.int (-1) u) = operate [.ref l, .int (-1) u] (getItem (.ref l) (.int (-1) u)) := by with_unfolding_all rfl) : wpAny (model prog w) A (subscriptTail value slice (.ref l) (.int (-1) u)) Q E s := by
  have il : s.heap.IsList l ys.toArray := ⟨_, (N _ hl).1, rfl, n, rfl⟩
  refine tail_any il.typeIs slot_list_getitem.lookup (wpAny_getItem_list_neg (x := ys.getD (ys.length - 1) .none) il (by omega) (by rw [List.size_toArray]; omega) (by omega) ?_ h) hs
  have e : ((-1 : Int) + ((ys.toArray.size : Nat) : Int)).toNat = ys.length - 1 := by rw [List.size_toArray]; omega
  have h1 : ys.length - 1 < ys.length := by omega
  rw [e]
  simp [List.getD, h1]
end
theorem set_self {l : List Value} {k : Nat} {v : Value} (h : k < l.length) (e : l.getD k .none = v) : l.set k v = l := by
  rw [← e, List.getD_eq_getElem?_getD, List.getElem?_eq_getElem h]
  simp
theorem pick_toG (ys : List Value) {k : Int} {n : Nat} (hk : k = (n : Int)) : kms_pick ys none (some k) = ys.take n := by
  subst hk
  unfold kms_pick kms_lo kms_hi
  simp only []
  rw [if_neg (by omega), List.drop_zero, Nat.sub_zero, Int.toNat_natCast]
  by_cases h : n ≤ ys.length
  · rw [Nat.min_eq_left h]
  · rw [Nat.min_eq_right (by omega), List.take_of_length_le (Nat.le_refl _), List.take_of_length_le (by omega)]
theorem pick_fromG (ys : List Value) {k : Int} {n : Nat} (hk : k = (n : Int)) : kms_pick ys (some k) none = ys.drop n := by
  subst hk
  unfold kms_pick kms_lo kms_hi
  simp only []
  rw [if_neg (by omega), Int.toNat_natCast]
  by_cases h : n ≤ ys.length
  · rw [Nat.min_eq_left h]
    exact List.take_of_length_le (by rw [List.length_drop]; omega)
  · rw [Nat.min_eq_right (by omega), Nat.sub_self, List.take_zero]
    exact (List.drop_eq_nil_of_le (by omega)).symm
theorem pick_init (ys : List Value) : kms_pick ys none (some (-1)) = ys.eraseIdx (ys.length - 1) := by
  unfold kms_pick kms_lo kms_hi
  simp only []
  rw [if_pos (by decide), List.drop_zero, Nat.sub_zero]
  have e : (-(-1 : Int)).toNat = 1 := rfl
  rw [e, List.eraseIdx_eq_take_drop_succ]
  have : ys.drop (ys.length - 1 + 1) = [] := List.drop_eq_nil_of_le (by omega)
  rw [this, List.append_nil]
theorem pos_of {ys : List Value} (h : ys.isEmpty = false) : 0 < ys.length := by
  cases ys with
  | nil => cases h
  | cons a l => exact Nat.zero_lt_succ _
theorem fmod_nat (a : Int) (m : Nat) (h : 0 < m) : ∃ j : Nat, Int.fmod a (m : Int) = (j : Int) ∧ j < m := by
  have h1 := Int.fmod_nonneg_of_pos a (show (0 : Int) < m by omega)
  have h2 := Int.fmod_lt_of_pos a (show (0 : Int) < m by omega)
  exact ⟨(Int.fmod a m).toNat, by omega, by omega⟩
theorem nw_or {o o2 : Led} {R R1 : Addr} (h : R = R1 ∨ New o2 R) (n : New o R1) (k : Kq o o2) : New o R := by
  rcases h with e | h
  · rw [e]; exact n
  · exact h.below k
section
variable {prog : Program} {w : World} {A : Around} {E : Value → Shared → Prop} {s : Shared} {K : Frag} {x C f L : Addr} {h₀ : Heap} {m : Str → Option Value} {ox : Obj} {od : Option Obj} {i : Value}
theorem del_own {Q : Unit → Shared → Prop} (F : Fr h₀ L s.heap m) (X₀ : K.In h₀) (I : InstAt s.heap x ox C od) (hq : noSeq K C = true) (hs : findIn K (.ref C) "__delitem__" = some (some (.ref f))) (hf : isFn K (.ref f) = true)
    (h : wpAny (model prog w) A (call (.ref f) [.ref x, i]) (fun _ s' => Q () s') E s) : wpAny (model prog w) A (delItem (.ref x) i) Q E s := by
  have X := X₀.keeps F.keep
  unfold delItem sequenceKey
  refine wpAny_holding (wpAny_bind (wpAny_bind (I.type.here ?_)))
  refine wpAny_bind ((anyM_none X hq).here ?_)
  rw [if_pos (show (!false) = true from rfl)]
  exact wpAny_pure (wpAny_bind (special_fn X I hs (beq_iff_eq.mp hf) (wpAny_mono h (fun _ _ z => wpAny_pure z) fun _ _ z => z)))
end
end
local macro_rules | `(tactic| walk_at "subscriptTail") => `(tactic| (k_here; (with_reducible show wpAny _ _ (subscriptTail _ _ (Value.ref _) (Value.int _ _)) _ _ _); (with_unfolding_all refine' item_at (by k_asm) (by k_mem) ?k1 ?k0 ?k2 (by first | assumption | omega) ?_; (case k1 => first | with_reducible assumption | exact rfl); (case k0 => with_reducible assumption); (case k2 => first | with_reducible assumption | omega))))
local macro_rules | `(tactic| walk_at "call ref") => `(tactic| (k_here; (with_reducible show wpAny _ _ (call (Value.ref 325) _) _ _ _); (refine' Con.use ?c ?hA ?hf ?hk ?F ?X ?T ?N ?hc ?t ?O (fun v9 h9 tk9 own9 fr9 T9 F9 N9 O9 R9 => ?_)); (case N => k_asm); (case hc => acc_binds); (case c => exact c_put (by k_mem) (by k_mem) (by with_reducible assumption) (by with_reducible assumption) (by with_reducible assumption) (by with_reducible assumption) (by first | omega | (simp only [List.length_cons, List.length_nil]; omega))); (case hA => acc_state); (case hf => rfl); (case hk => rfl); (case F => k_asm); (case X => k_asm); (case T => k_asm); (case t => with_reducible assumption); (case O => acc_keepN); (obtain ⟨R9, n9, e9, hm9, kq9, or9⟩ := R9); subst e9))
local macro_rules | `(tactic| walk_at "call ref") => `(tactic| (k_here; (with_reducible show wpAny _ _ (call (Value.ref 330) _) _ _ _); (refine' Con.use ?c ?hA ?hf ?hk ?F ?X ?T ?N ?hc ?t ?O (fun v9 h9 tk9 own9 fr9 T9 F9 N9 O9 R9 => ?_)); (case N => k_asm); (case hc => acc_binds); (case c => exact c_only (by k_mem) (by k_mem) (by with_reducible assumption) (by with_reducible assumption) (by first | assumption | omega) (by first | assumption | omega | (simp only [List.length_cons, List.length_nil]; omega))); (case hA => acc_state); (case hf => rfl); (case hk => rfl); (case F => k_asm); (case X => k_asm); (case T => k_asm); (case t => with_reducible assumption); (case O => acc_keepN); (obtain ⟨R9, n9, e9, hm9, kq9, nw9⟩ := R9); subst e9))
local macro_rules | `(tactic| walk_at "exec Try cons cons nil nil") => `(tactic| (k_here; (with_reducible show wpAny _ _ (exec (Stmt.Try _ (_ :: _) _ [] _) (envOfC _ _ _ _ _)) _ _ _); refine wpAny_Try_except ?_))
local macro_rules | `(tactic| walk_at "getItem ref int") => `(tactic| (k_here; (with_reducible show wpAny _ _ (getItem (Value.ref _) (Value.int _ _)) _ _ _); (refine' getitem_at ?N ?l ?k1 ?k0 ?k2 ?z ?_); (case N => k_asm); (case l => k_mem); (case k1 => first | with_reducible assumption | exact rfl); (case k0 => with_reducible assumption); (case k2 => first | with_reducible assumption | omega); (case z => first | with_reducible assumption | omega)))
local macro_rules | `(tactic| walk_at "setItem ref int") => `(tactic| (k_here; (with_reducible show wpAny _ _ (setItem (Value.ref _) (Value.int _ _) _) _ _ _); (refine' u_setitem ?F ?N ?c ?a ?t ?O ?k1 ?k2 ?e ?z (fun h9 own9 n9 kp9 hm9 O9 F9 N9 => ?_)); (case F => k_asm); (case N => k_asm); (case c => acc_binds); (case a => k_mem); (case t => with_reducible assumption); (case O => acc_keepN); (case k1 => first | with_reducible assumption | exact rfl); (case k2 => first | with_reducible assumption | omega); (case e => first | with_reducible assumption | exact rfl); (case z => first | with_reducible assumption | omega)))
local macro_rules | `(tactic| walk_at "subscriptTail") => `(tactic| (k_here; (with_reducible show wpAny _ _ (subscriptTail _ _ (Value.ref _) (Value.int (-1) _)) _ _ _); (with_unfolding_all refine' item_last (by k_asm) (by k_mem) ?k1 ?k2 ?_; (case k1 => first | with_reducible assumption | exact pos_of (by with_reducible assumption)); (case k2 => first | assumption | omega))))
local macro_rules | `(tactic| walk_at "subscriptTail Name Slice ref ref") => `(tactic| (k_here; (with_reducible show wpAny _ _ (subscriptTail _ (PySem.Expr.Slice _ _ none _) (Value.ref _) (Value.ref _)) _ _ _); k_dflt ((refine' u_slice ?F ?N ?c ?a ?t ?O ?p ?q ?e ?z (fun D9 h9 n9 O9 F9 N9 => ?_) ?hs ?ht); (case F => k_asm); (case N => k_asm); (case c => acc_binds); (case a => k_mem); (case t => with_reducible assumption); (case O => acc_keepN); (case p => kmk_part); (case q => kmk_part); (case e => first | exact pick_init _ | exact pick_toG _ (by with_reducible assumption) | exact pick_fromG _ (by with_reducible assumption)); (case z => first | assumption | omega); (case hs => with_unfolding_all rfl); (case ht => kmk_pure))))
local macro_rules | `(tactic| walk_at "call ref") => `(tactic| (k_here; (with_reducible show wpAny _ _ (call (Value.ref 142) _) _ _ _); (refine' Con.use ?c ?hA ?hf ?hk ?F ?X ?T ?N ?hc ?t ?O (fun v9 h9 tk9 own9 fr9 T9 F9 N9 O9 R9 => ?_)); (case N => k_asm); (case hc => acc_binds); (case c => exact c_ior (by with_reducible assumption) (by with_reducible assumption) (by omega) (by omega)); (case hA => acc_state); (case hf => rfl); (case hk => rfl); (case F => k_asm); (case X => k_asm); (case T => k_asm); (case t => with_reducible assumption); (case O => acc_keepN); (obtain ⟨e9, L9, s9, kp9, nw9⟩ := R9); subst e9))
local macro_rules | `(tactic| walk_at "call ref") => `(tactic| (k_here; (with_reducible show wpAny _ _ (call (Value.ref 128) _) _ _ _); (refine' Con.use ?c ?hA ?hf ?hk ?F ?X ?T ?N ?hc ?t ?O (fun v9 h9 tk9 own9 fr9 T9 F9 N9 O9 R9 => ?_)); (case N => k_asm); (case hc => acc_binds); (case c => exact c_iand (by with_reducible assumption) (by with_reducible assumption) (by omega) (by omega)); (case hA => acc_state); (case hf => rfl); (case hk => rfl); (case F => k_asm); (case X => k_asm); (case T => k_asm); (case t => with_reducible assumption); (case O => acc_keepN); (obtain ⟨e9, L9, s9, kp9, nw9⟩ := R9); subst e9))
local macro_rules | `(tactic| walk_at "call ref") => `(tactic| (k_here; (with_reducible show wpAny _ _ (call (Value.ref 163) _) _ _ _); (refine' Con.use ?c ?hA ?hf ?hk ?F ?X ?T ?N ?hc ?t ?O (fun v9 h9 tk9 own9 fr9 T9 F9 N9 O9 R9 => ?_)); (case N => k_asm); (case hc => acc_binds); (case c => exact c_isub (by with_reducible assumption) (by with_reducible assumption) (by omega) (by omega)); (case hA => acc_state); (case hf => rfl); (case hk => rfl); (case F => k_asm); (case X => k_asm); (case T => k_asm); (case t => with_reducible assumption); (case O => acc_keepN); (obtain ⟨e9, L9, s9, kp9, nw9⟩ := R9); subst e9))
local macro_rules | `(tactic| walk_at "call ref") => `(tactic| (k_here; (with_reducible show wpAny _ _ (call (Value.ref 177) _) _ _ _); (refine' Con.use ?c ?hA ?hf ?hk ?F ?X ?T ?N ?hc ?t ?O (fun v9 h9 tk9 own9 fr9 T9 F9 N9 O9 R9 => ?_)); (case N => k_asm); (case hc => acc_binds); (case c => exact c_ixor (by with_reducible assumption) (by with_reducible assumption) (by omega) (by omega)); (case hA => acc_state); (case hf => rfl); (case hk => rfl); (case F => k_asm); (case X => k_asm); (case T => k_asm); (case t => with_reducible assumption); (case O => acc_keepN); (obtain ⟨e9, L9, s9, kp9, nw9⟩ := R9); subst e9))
local macro_rules | `(tactic| walk_at "call ref") => `(tactic| (k_here; (with_reducible show wpAny _ _ (call (Value.ref 247) _) _ _ _); (refine' ConX.use ?c ?hA ?hf ?hk ?F ?X ?T ?N ?hc ?t ?O (fun v9 h9 tk9 own9 fr9 T9 F9 N9 O9 R9 => ?_) (fun e9 tb9 oe9 vs9 tvs9 h9 tk9 fr9 C9 T9 F9 N9 O9 ne9 hc9 hd9 h1 h3 w1 w2 => Hold.of ?_)); (case N => k_asm); (case hc => acc_binds); (case c => exact c_pop (by acc_peel) (by omega)); (case hA => acc_state); (case hf => rfl); (case hk => rfl); (case F => k_asm); (case X => k_asm); (case T => k_asm); (case t => with_reducible assumption); (case O => acc_keepN); (try (obtain ⟨q9, e9, kp9, n9, hm9⟩ := R9; subst e9))))
local macro_rules | `(tactic| walk_at "call ref") => `(tactic| (k_here; (with_reducible show wpAny _ _ (call (Value.ref 254) _) _ _ _); (refine' ConX.use ?c ?hA ?hf ?hk ?F ?X ?T ?N ?hc ?t ?O (fun v9 h9 tk9 own9 fr9 T9 F9 N9 O9 R9 => ?_) (fun e9 tb9 oe9 vs9 tvs9 h9 tk9 fr9 C9 T9 F9 N9 O9 ne9 hc9 hd9 h1 h3 w1 w2 => Hold.of ?_)); (case N => k_asm); (case hc => acc_binds); (case c => exact c_remove (by acc_peel) (by with_reducible assumption) (by omega)); (case hA => acc_state); (case hf => rfl); (case hk => rfl); (case F => k_asm); (case X => k_asm); (case T => k_asm); (case t => with_reducible assumption); (case O => acc_keepN); (try (obtain ⟨q9, e9, kp9, n9, hm9⟩ := R9; subst e9))))
local macro_rules | `(tactic| walk_at "call ref") => `(tactic| (k_here; (with_reducible show wpAny _ _ (call (Value.ref 191) _) _ _ _); (refine' ConX.use ?c ?hA ?hf ?hk ?F ?X ?T ?N ?hc ?t ?O (fun v9 h9 tk9 own9 fr9 T9 F9 N9 O9 R9 => ?_) (fun e9 tb9 oe9 vs9 tvs9 h9 tk9 fr9 C9 T9 F9 N9 O9 ne9 hc9 hd9 h1 h3 w1 w2 => Hold.of ?_)); (case N => k_asm); (case hc => acc_binds); (case c => exact c_delitem (by acc_peel) (by with_reducible assumption) (by omega) (by omega)); (case hA => acc_state); (case hf => rfl); (case hk => rfl); (case F => k_asm); (case X => k_asm); (case T => k_asm); (case t => with_reducible assumption); (case O => acc_keepN); (try (obtain ⟨q9, e9, kp9, n9, hm9⟩ := R9; subst e9))))
local macro_rules | `(tactic| walk_at "CmpBack") => `(tactic| (k_here; unfold PySem.W.CmpBack; dsimp only))
local macro_rules | `(tactic| walk_at "delItem ref int") => `(tactic| (k_here; (with_reducible show wpAny _ _ (delItem (Value.ref _) (Value.int _ _)) _ _ _); (refine' del_own (C := 306) (f := 191) ?F ?X ?I ?hQ ?hS ?hF ?_); (case F => k_asm); (case X => k_asm); (case I => exact InstAt.of_news (by k_asm) (by k_mem) (by k_mem)); (case hQ => k_is); (case hS => k_is); (case hF => k_is)))
section
example : True := by w_top off; trivial
theorem deed_add {w : World} {d : List Value} {own : Led} {P W NL : Addr} {TT x : Value} {pv : List Value} {k k' : Nat} {S D Ls T E Lt r q : Addr} {xs ys : List Value} {nr nq np : Nat} {n : Int} {t tn t1 t2 : Tok} (hd : DIn d own P pv k k' S D Ls T E Lt r q xs ys nr nq np) (hx : x ∈ d) :
    Blk w (branch 0 chain) (bIn P W NL TT x r q k n t tn t1 t2) own (DOut d own P W NL TT pv k t S D Ls r) := by
  obtain ⟨dom, htc, hdl, s1, s2, hr, hq, hP, kl, kl', hpl, p1, p2, hkk, gx, gy, ⟨l1, l2, l3, l4, l5, l6⟩, ⟨d1, d2, d3, d4, d5, d6⟩, ⟨b1, b2, b3, b4, b5, b6, b7⟩⟩ := hd
  have hT : ∀ y ∈ d, Th y := fun y hy => (htc y hy).th
  have hxT := hT x hx
  have hxc := htc x hx
  have hx1 := sin_mem hx
  have hx1T : ∀ y ∈ [x], Th y := mem_th hT hx1
  have gxm := gx.mem
  have gym := gy.mem
  have gxT := mem_th hT gxm
  have gyT := mem_th hT gym
  have hlt := dom_lt dom
  have hset := set_self kl p1
  have xl := good_len dom gx hdl
  have yl := good_len dom gy hdl
  obtain ⟨hS, ⟨hsh, tk, hD⟩, ⟨nL, hL⟩, hth, m1, m2, m3⟩ := id s1
  obtain ⟨hS2, ⟨hsh2, tk2, hD2⟩, ⟨nL2, hL2⟩, hth2, m4, m5, m6⟩ := id s2
  intro sc prog Q s h₀ L fa cd mg mb u p loose mean fr₁ fr hs F X T N tl O kk
  generalize hb : branch 0 chain = blk
  conv at hb => lhs; whnf
  conv at hs => rhs; whnf
  subst hb
  subst hs
  try dsimp only
  ktr_unf
  (rename Kp Ls own _ => kpA; rename (_ = r ∨ New _ _) => orA; rename ((_, PySem.W.listOf (put xs _).toArray _) ∈ _) => hmA; rename Kq (_ :: _) _ => kqA; rename ((Ls, PySem.W.listOf (ins xs x).toArray _) ∈ _) => hLA)
  (rename Fr h₀ L _ _ => FZ; rename News h₀ L _ _ => NZ; rename Tl [] _ _ => TZ; rename Off _ [] => OZ)
  have kq2 : Kq _ _ := fun p hp => kqA p (.tail _ hp)
  have e : put xs [x] = ins xs x := putOne_ins dom gx hx
  rw [e] at hmA
  refine kk _ _ _ _ _ _ TZ (fr_binds FZ (ps := bOut P W NL TT _ k t _ _) (by exact ⟨rfl, rfl, rfl, rfl, rfl, rfl, rfl, rfl, trivial⟩)) NZ OZ ⟨ins xs x, Ls, _, _, _, _, _, rfl, ?_, hmA, kq2 _ (kpA _ hP l6), fun p hp _ h2 _ => kq2 _ (kpA p hp h2), .inl rfl, ?_, ?_, eq_str _ _ _, .str _ _, .str _ _, good_ins dom gx hx⟩
  · exact ⟨kq2 _ (kpA _ hS m1), ⟨_, _, kq2 _ (kpA _ hD m2)⟩, ⟨_, kq2 _ hLA⟩, mem_th hT (good_ins dom gx hx).mem, m1, m2, m3⟩
  · exact orA.imp id fun h => (h.below fun p hp => .tail _ hp).belowP kpA (h _ (.tail _ hLA))
  · exact orA.elim (fun e => e ▸ l4) fun h e => h _ (.tail _ hLA) e.symm
end
section
example : True := by w_top off; trivial
theorem deed_rem {w : World} {d : List Value} {own : Led} {P W NL : Addr} {TT x : Value} {pv : List Value} {k k' : Nat} {S D Ls T E Lt r q : Addr} {xs ys : List Value} {nr nq np : Nat} {n : Int} {t tn t1 t2 : Tok} (hd : DIn d own P pv k k' S D Ls T E Lt r q xs ys nr nq np) (hx : x ∈ d) :
    Blk w (branch 1 chain) (bIn P W NL TT x r q k n t tn t1 t2) own (DOut d own P W NL TT pv k t S D Ls r) := by
  obtain ⟨dom, htc, hdl, s1, s2, hr, hq, hP, kl, kl', hpl, p1, p2, hkk, gx, gy, ⟨l1, l2, l3, l4, l5, l6⟩, ⟨d1, d2, d3, d4, d5, d6⟩, ⟨b1, b2, b3, b4, b5, b6, b7⟩⟩ := hd
  have hT : ∀ y ∈ d, Th y := fun y hy => (htc y hy).th
  have hxT := hT x hx
  have hxc := htc x hx
  have hx1 := sin_mem hx
  have hx1T : ∀ y ∈ [x], Th y := mem_th hT hx1
  have gxm := gx.mem
  have gym := gy.mem
  have gxT := mem_th hT gxm
  have gyT := mem_th hT gym
  have hlt := dom_lt dom
  have hset := set_self kl p1
  have xl := good_len dom gx hdl
  have yl := good_len dom gy hdl
  obtain ⟨hS, ⟨hsh, tk, hD⟩, ⟨nL, hL⟩, hth, m1, m2, m3⟩ := id s1
  obtain ⟨hS2, ⟨hsh2, tk2, hD2⟩, ⟨nL2, hL2⟩, hth2, m4, m5, m6⟩ := id s2
  intro sc prog Q s h₀ L fa cd mg mb u p loose mean fr₁ fr hs F X T N tl O kk
  generalize hb : branch 1 chain = blk
  conv at hb => lhs; whnf
  conv at hs => rhs; whnf
  subst hb
  subst hs
  try dsimp only
  ktr_unf
  · (rename Kq (_ :: own) _ => kqA; rename New (_ :: own) _ => nwA; rename ((_, PySem.W.listOf (only xs [x] false).toArray _) ∈ _) => hm1; rename Kp Ls _ _ => kpA; rename ((Ls, PySem.W.listOf (xs.eraseIdx _).toArray _) ∈ _) => hLA; rename (has xs x = true) => hhx)
    (rename Fr h₀ L _ _ => FZ; rename News h₀ L _ _ => NZ; rename Tl [] _ _ => TZ; rename Off _ [] => OZ)
    have e := rem_only dom gx hx
    rw [if_pos hhx] at e
    have gz := only_good (ys := [x]) gx false
    rw [← e] at gz hm1
    refine kk _ _ _ _ _ _ TZ (fr_binds FZ (ps := bOut P W NL TT _ k t _ _) (by exact ⟨rfl, rfl, rfl, rfl, rfl, rfl, rfl, rfl, trivial⟩)) NZ OZ ⟨_, Ls, _, _, _, _, _, rfl, ⟨kpA _ (kqA _ (.tail _ hS)) m1, ⟨_, _, kpA _ (kqA _ (.tail _ hD)) m2⟩, ⟨_, hLA⟩, mem_th hT gz.mem, m1, m2, m3⟩, kpA _ hm1 (fun e => nwA _ (.tail _ hL) e.symm), kpA _ (kqA _ (.tail _ hP)) l6, fun p hp _ h2 _ => kpA p (kqA p (.tail _ hp)) h2, .inl rfl, .inr (nwA.below fun p hp => .tail _ hp), fun e => nwA _ (.tail _ hL) e.symm, eq_str _ _ _, .str _ _, .str _ _, gz⟩
  · rename (has xs x = false) => hhx
    rename (List.any _ _ = true) => he
    exact absurd ((hhx.symm.trans (has_any dom gx hx)).trans he) (by decide)
  · rename (has xs x = true) => hhx
    rename (List.any _ _ = false) => he
    exact absurd ((hhx.symm.trans (has_any dom gx hx)).trans he) (by decide)
  · unfold Hold
    rename_i eX tbX oeX vsX tvsX hX tkX frX CX TX FX NX OX neX hcX hdX h1X h3X w1X w2X
    refine catch_fly (T := "KeyError") rfl rfl rfl TX FX NX OX neX hcX hdX h1X h3X w1X w2X (fun s1 Q1 F1 q => by walk1; exact q) kr_isExc_KeyError kr_notTuple_KeyError (by rw [isSubtype_type]; kernel_rfl) (fun hY frY TY FY NY => ?_) (by passes_own)
    clear FX NX TX OX
    ktr_unf
    (rename Kq (_ :: own) _ => kqA; rename New (_ :: own) _ => nwA; rename ((_, PySem.W.listOf (only xs [x] false).toArray _) ∈ _) => hm1; rename Off _ [] => OZ; rename Fr h₀ L _ _ => FZ; rename News h₀ L _ _ => NZ)
    have e := rem_only dom gx hx
    rw [if_neg (by rw [CX]; exact Bool.false_ne_true)] at e
    rw [← e] at hm1
    refine kk _ _ _ _ _ _ TY (fr_binds FZ (ps := bOut P W NL TT _ k t _ _) (by exact ⟨rfl, rfl, rfl, rfl, rfl, rfl, rfl, rfl, trivial⟩)) NZ OZ ⟨xs, Ls, _, _, _, _, _, rfl, ⟨kqA _ (.tail _ hS), ⟨_, _, kqA _ (.tail _ hD)⟩, ⟨_, kqA _ (.tail _ hL)⟩, hth, m1, m2, m3⟩, hm1, kqA _ (.tail _ hP), fun p hp _ _ _ => kqA p (.tail _ hp), .inl rfl, .inr (nwA.below fun p hp => .tail _ hp), fun e => nwA _ (.tail _ hL) e.symm, eq_str _ _ _, .str _ _, .str _ _, gx⟩
end
section
example : True := by w_top off; trivial
theorem deed_pop {w : World} {d : List Value} {own : Led} {P W NL : Addr} {TT x : Value} {pv : List Value} {k k' : Nat} {S D Ls T E Lt r q : Addr} {xs ys : List Value} {nr nq np : Nat} {n : Int} {t tn t1 t2 : Tok} (hd : DIn d own P pv k k' S D Ls T E Lt r q xs ys nr nq np) (hx : x ∈ d) :
    Blk w (branch 2 chain) (bIn P W NL TT x r q k n t tn t1 t2) own (DOut d own P W NL TT pv k t S D Ls r) := by
  obtain ⟨dom, htc, hdl, s1, s2, hr, hq, hP, kl, kl', hpl, p1, p2, hkk, gx, gy, ⟨l1, l2, l3, l4, l5, l6⟩, ⟨d1, d2, d3, d4, d5, d6⟩, ⟨b1, b2, b3, b4, b5, b6, b7⟩⟩ := hd
  have hT : ∀ y ∈ d, Th y := fun y hy => (htc y hy).th
  have hxT := hT x hx
  have hxc := htc x hx
  have hx1 := sin_mem hx
  have hx1T : ∀ y ∈ [x], Th y := mem_th hT hx1
  have gxm := gx.mem
  have gym := gy.mem
  have gxT := mem_th hT gxm
  have gyT := mem_th hT gym
  have hlt := dom_lt dom
  have hset := set_self kl p1
  have xl := good_len dom gx hdl
  have yl := good_len dom gy hdl
  obtain ⟨hS, ⟨hsh, tk, hD⟩, ⟨nL, hL⟩, hth, m1, m2, m3⟩ := id s1
  obtain ⟨hS2, ⟨hsh2, tk2, hD2⟩, ⟨nL2, hL2⟩, hth2, m4, m5, m6⟩ := id s2
  intro sc prog Q s h₀ L fa cd mg mb u p loose mean fr₁ fr hs F X T N tl O kk
  generalize hb : branch 2 chain = blk
  conv at hb => lhs; whnf
  conv at hs => rhs; whnf
  subst hb
  subst hs
  try dsimp only
  ktr_unf
  · rename (xs ≠ []) => hne
    rename (List.isEmpty xs = true) => he
    exact absurd (List.isEmpty_iff.mp he) hne
  · unfold Hold
    rename_i eX tbX oeX vsX tvsX hX tkX frX CX TX FX NX OX neX hcX hdX h1X h3X w1X w2X
    refine catch_fly (T := "KeyError") rfl rfl rfl TX FX NX OX neX hcX hdX h1X h3X w1X w2X (fun s1 Q1 F1 q => by walk1; exact q) kr_isExc_KeyError kr_notTuple_KeyError (by rw [isSubtype_type]; kernel_rfl) (fun hY frY TY FY NY => ?_) (by passes_own)
    clear FX NX TX OX
    ktr_unf
    (rename New own _ => nwA; rename Off _ [] => OZ; rename Fr h₀ L _ _ => FZ; rename News h₀ L _ _ => NZ)
    subst CX
    refine kk _ _ _ _ _ _ TY (fr_binds FZ (ps := bOut P W NL TT _ k t _ _) (by exact ⟨rfl, rfl, rfl, rfl, rfl, rfl, rfl, rfl, trivial⟩)) NZ OZ ⟨[], Ls, _, _, _, _, _, rfl, ⟨.tail _ hS, ⟨_, _, .tail _ hD⟩, ⟨_, .tail _ hL⟩, hth, m1, m2, m3⟩, .head _, .tail _ hP, fun p hp _ _ _ => .tail _ hp, .inl rfl, .inr nwA, fun e => nwA _ hL e.symm, eq_str _ _ _, .str _ _, .str _ _, gx⟩
  · (rename New own _ => nwA; rename Kp Ls _ _ => kpA; rename ((Ls, PySem.W.listOf (xs.eraseIdx _).toArray _) ∈ _) => hLA; rename (xs ≠ []) => hne)
    (rename Fr h₀ L _ _ => FZ; rename News h₀ L _ _ => NZ; rename Tl [] _ _ => TZ; rename Off _ [] => OZ)
    have hpos := List.length_pos_iff.mpr hne
    have gz : Good d (xs.eraseIdx (xs.length - 1)) := gx.sub (List.eraseIdx_sublist ..)
    refine kk _ _ _ _ _ _ TZ (fr_binds FZ (ps := bOut P W NL TT _ k t _ _) (by exact ⟨rfl, rfl, rfl, rfl, rfl, rfl, rfl, rfl, trivial⟩)) NZ OZ ⟨_, Ls, _, _, _, _, _, rfl, ⟨kpA _ (.tail _ hS) m1, ⟨_, _, kpA _ (.tail _ hD) m2⟩, ⟨_, hLA⟩, mem_th hT gz.mem, m1, m2, m3⟩, kpA _ (.head _) (fun e => nwA _ hL e.symm), kpA _ (.tail _ hP) l6, fun p hp _ h2 _ => kpA p (.tail _ hp) h2, .inl rfl, .inr nwA, fun e => nwA _ hL e.symm, dom.rfl' _ (gxm _ (getD_in (by omega))), th_getD gxT _, th_getD gxT _, gz⟩
  · rename_i eX tbX oeX vsX tvsX hX tkX frX CX TX FX NX OX neX hcX hdX h1X h3X w1X w2X
    rename (List.isEmpty xs = false) => he
    rw [CX] at he
    cases he
end
section
example : True := by w_top off; trivial
theorem deed_del {w : World} {d : List Value} {own : Led} {P W NL : Addr} {TT x : Value} {pv : List Value} {k k' : Nat} {S D Ls T E Lt r q : Addr} {xs ys : List Value} {nr nq np : Nat} {n : Int} {t tn t1 t2 : Tok} (hd : DIn d own P pv k k' S D Ls T E Lt r q xs ys nr nq np) (hx : x ∈ d) :
    Blk w (branch 3 chain) (bIn P W NL TT x r q k n t tn t1 t2) own (DOut d own P W NL TT pv k t S D Ls r) := by
  obtain ⟨dom, htc, hdl, s1, s2, hr, hq, hP, kl, kl', hpl, p1, p2, hkk, gx, gy, ⟨l1, l2, l3, l4, l5, l6⟩, ⟨d1, d2, d3, d4, d5, d6⟩, ⟨b1, b2, b3, b4, b5, b6, b7⟩⟩ := hd
  have hT : ∀ y ∈ d, Th y := fun y hy => (htc y hy).th
  have hxT := hT x hx
  have hxc := htc x hx
  have hx1 := sin_mem hx
  have hx1T : ∀ y ∈ [x], Th y := mem_th hT hx1
  have gxm := gx.mem
  have gym := gy.mem
  have gxT := mem_th hT gxm
  have gyT := mem_th hT gym
  have hlt := dom_lt dom
  have hset := set_self kl p1
  have xl := good_len dom gx hdl
  have yl := good_len dom gy hdl
  obtain ⟨hS, ⟨hsh, tk, hD⟩, ⟨nL, hL⟩, hth, m1, m2, m3⟩ := id s1
  obtain ⟨hS2, ⟨hsh2, tk2, hD2⟩, ⟨nL2, hL2⟩, hth2, m4, m5, m6⟩ := id s2
  obtain ⟨j, hj, hj8⟩ := fmod_nat (Int.fdiv n 24) 8 (by decide)
  change Int.fmod (Int.fdiv n 24) 8 = (j : Int) at hj
  have hj1 : Int.fmod (Int.fdiv n 24) 8 + 1 = ((j + 1 : Nat) : Int) := by omega
  intro sc prog Q s h₀ L fa cd mg mb u p loose mean fr₁ fr hs F X T N tl O kk
  generalize hb : branch 3 chain = blk
  conv at hb => lhs; whnf
  conv at hs => rhs; whnf
  subst hb
  subst hs
  try dsimp only
  ktr_unf
  · (rename New (_ :: _ :: own) _ => nwA; rename Kp Ls _ _ => kpA; rename ((Ls, PySem.W.listOf (xs.eraseIdx j).toArray _) ∈ _) => hLA; rename (j < xs.length) => hjl)
    (rename Fr h₀ L _ _ => FZ; rename News h₀ L _ _ => NZ; rename Tl [] _ _ => TZ; rename Off _ [] => OZ)
    have gz : Good d (xs.eraseIdx j) := gx.sub (List.eraseIdx_sublist ..)
    have e : xs.take j ++ xs.drop (j + 1) = xs.eraseIdx j := (List.eraseIdx_eq_take_drop_succ ..).symm
    rw [e] at kpA
    have nwB := nwA.below fun p hp => .tail _ (.tail _ hp)
    refine kk _ _ _ _ _ _ TZ (fr_binds FZ (ps := bOut P W NL TT _ k t _ _) (by exact ⟨rfl, rfl, rfl, rfl, rfl, rfl, rfl, rfl, trivial⟩)) NZ OZ ⟨_, Ls, _, _, _, _, _, rfl, ⟨kpA _ (.tail _ (.tail _ (.tail _ hS))) m1, ⟨_, _, kpA _ (.tail _ (.tail _ (.tail _ hD))) m2⟩, ⟨_, hLA⟩, mem_th hT gz.mem, m1, m2, m3⟩, kpA _ (.head _) (fun e => nwB _ hL e.symm), kpA _ (.tail _ (.tail _ (.tail _ hP))) l6, fun p hp _ h2 _ => kpA p (.tail _ (.tail _ (.tail _ hp))) h2, .inl rfl, .inr nwB, fun e => nwB _ hL e.symm, eq_str _ _ _, .str _ _, .str _ _, gz⟩
  · rename_i eX tbX oeX vsX tvsX hX tkX frX CX TX FX NX OX neX hcX hdX h1X h3X w1X w2X
    exfalso
    omega
  · exfalso
    omega
  · unfold Hold
    rename_i eX tbX oeX vsX tvsX hX tkX frX CX TX FX NX OX neX hcX hdX h1X h3X w1X w2X
    refine catch_fly (T := "IndexError") rfl rfl rfl TX FX NX OX neX hcX hdX h1X h3X w1X w2X (fun s1 Q1 F1 q => by walk1; exact q) PySem.F.isExc_IndexError PySem.F.notTuple_IndexError (by rw [isSubtype_type]; kernel_rfl) (fun hY frY TY FY NY => ?_) (by passes_own)
    clear FX NX TX OX
    ktr_unf
    (rename New (_ :: _ :: own) _ => nwA; rename Off _ [] => OZ; rename Fr h₀ L _ _ => FZ; rename News h₀ L _ _ => NZ)
    have e : xs.take j ++ xs.drop (j + 1) = xs := by rw [List.take_of_length_le CX, List.drop_eq_nil_of_le (by omega), List.append_nil]
    rw [e] at NZ OZ
    have nwB := nwA.below fun p hp => .tail _ (.tail _ hp)
    refine kk _ _ _ _ _ _ TY (fr_binds FZ (ps := bOut P W NL TT _ k t _ _) (by exact ⟨rfl, rfl, rfl, rfl, rfl, rfl, rfl, rfl, trivial⟩)) NZ OZ ⟨xs, Ls, _, _, _, _, _, rfl, ⟨.tail _ (.tail _ (.tail _ hS)), ⟨_, _, .tail _ (.tail _ (.tail _ hD))⟩, ⟨_, .tail _ (.tail _ (.tail _ hL))⟩, hth, m1, m2, m3⟩, .head _, .tail _ (.tail _ (.tail _ hP)), fun p hp _ _ _ => .tail _ (.tail _ (.tail _ hp)), .inl rfl, .inr nwB, fun e => nwB _ hL e.symm, eq_str _ _ _, .str _ _, .str _ _, gx⟩
end
section
example : True := by w_top off; trivial
theorem deed_or {w : World} {d : List Value} {own : Led} {P W NL : Addr} {TT x : Value} {pv : List Value} {k k' : Nat} {S D Ls T E Lt r q : Addr} {xs ys : List Value} {nr nq np : Nat} {n : Int} {t tn t1 t2 : Tok} (hd : DIn d own P pv k k' S D Ls T E Lt r q xs ys nr nq np) (hx : x ∈ d) :
    Blk w (branch 4 chain) (bIn P W NL TT x r q k n t tn t1 t2) own (DOut d own P W NL TT pv k t S D Ls r) := by
  obtain ⟨dom, htc, hdl, s1, s2, hr, hq, hP, kl, kl', hpl, p1, p2, hkk, gx, gy, ⟨l1, l2, l3, l4, l5, l6⟩, ⟨d1, d2, d3, d4, d5, d6⟩, ⟨b1, b2, b3, b4, b5, b6, b7⟩⟩ := hd
  have hT : ∀ y ∈ d, Th y := fun y hy => (htc y hy).th
  have hxT := hT x hx
  have hxc := htc x hx
  have hx1 := sin_mem hx
  have hx1T : ∀ y ∈ [x], Th y := mem_th hT hx1
  have gxm := gx.mem
  have gym := gy.mem
  have gxT := mem_th hT gxm
  have gyT := mem_th hT gym
  have hlt := dom_lt dom
  have hset := set_self kl p1
  have xl := good_len dom gx hdl
  have yl := good_len dom gy hdl
  obtain ⟨hS, ⟨hsh, tk, hD⟩, ⟨nL, hL⟩, hth, m1, m2, m3⟩ := id s1
  obtain ⟨hS2, ⟨hsh2, tk2, hD2⟩, ⟨nL2, hL2⟩, hth2, m4, m5, m6⟩ := id s2
  intro sc prog Q s h₀ L fa cd mg mb u p loose mean fr₁ fr hs F X T N tl O kk
  generalize hb : branch 4 chain = blk
  conv at hb => lhs; whnf
  conv at hs => rhs; whnf
  subst hb
  subst hs
  try dsimp only
  ktr_unf
  (rename SetAt _ S D _ (add xs ys) => sA; rename Kp D own _ => kpD; rename New own _ => nwA; rename Kp P _ _ => kpP; rename ((P, PySem.W.listOf pv.toArray _) ∈ _) => hPA)
  (rename Kq _ _ => kqZ; rename (_ = r ∨ New _ _) => orZ; rename ((_, PySem.W.listOf (put xs ys).toArray _) ∈ _) => hmA)
  (rename Fr h₀ L _ _ => FZ; rename News h₀ L _ _ => NZ; rename Tl [] _ _ => TZ; rename Off _ [] => OZ)
  obtain ⟨aS, ⟨_, _, aD⟩, ⟨_, aL⟩, aT, a1, a2, a3⟩ := sA
  have gz : Good d (add xs ys) ∧ put xs ys = add xs ys := ⟨(add_good dom ys xs gx gym).1, (add_good dom ys xs gx gym).2⟩
  rw [gz.2] at hmA
  have nLP : _ ≠ P := fun e => nwA _ hP e.symm
  refine kk _ _ _ _ _ _ TZ (fr_binds FZ (ps := bOut P W NL TT _ k t _ _) (by exact ⟨rfl, rfl, rfl, rfl, rfl, rfl, rfl, rfl, trivial⟩)) NZ OZ ⟨add xs ys, _, _, _, _, _, _, rfl, ?_, hmA, kqZ _ hPA, fun p hp h1 _ h3 => kqZ _ (kpP p (kpD p hp h1) h3), .inr nwA, ?_, ?_, eq_str _ _ _, .str _ _, .str _ _, gz.1⟩
  · exact ⟨kqZ _ (kpP _ aS b1), ⟨_, _, kqZ _ (kpP _ aD b2)⟩, ⟨_, kqZ _ (kpP _ aL nLP)⟩, aT, a1, a2, a3⟩
  · exact orZ.imp id fun h => (h.belowP kpP (h _ hPA)).belowP kpD (h.belowP kpP (h _ hPA) _ aD)
  · exact orZ.elim (fun e e' => nwA _ hr (e.symm.trans e')) fun h e => h.belowP kpP (h _ hPA) _ aL e.symm
end
section
example : True := by w_top off; trivial
theorem deed_and {w : World} {d : List Value} {own : Led} {P W NL : Addr} {TT x : Value} {pv : List Value} {k k' : Nat} {S D Ls T E Lt r q : Addr} {xs ys : List Value} {nr nq np : Nat} {n : Int} {t tn t1 t2 : Tok} (hd : DIn d own P pv k k' S D Ls T E Lt r q xs ys nr nq np) (hx : x ∈ d) :
    Blk w (branch 5 chain) (bIn P W NL TT x r q k n t tn t1 t2) own (DOut d own P W NL TT pv k t S D Ls r) := by
  obtain ⟨dom, htc, hdl, s1, s2, hr, hq, hP, kl, kl', hpl, p1, p2, hkk, gx, gy, ⟨l1, l2, l3, l4, l5, l6⟩, ⟨d1, d2, d3, d4, d5, d6⟩, ⟨b1, b2, b3, b4, b5, b6, b7⟩⟩ := hd
  have hT : ∀ y ∈ d, Th y := fun y hy => (htc y hy).th
  have hxT := hT x hx
  have hxc := htc x hx
  have hx1 := sin_mem hx
  have hx1T : ∀ y ∈ [x], Th y := mem_th hT hx1
  have gxm := gx.mem
  have gym := gy.mem
  have gxT := mem_th hT gxm
  have gyT := mem_th hT gym
  have hlt := dom_lt dom
  have hset := set_self kl p1
  have xl := good_len dom gx hdl
  have yl := good_len dom gy hdl
  obtain ⟨hS, ⟨hsh, tk, hD⟩, ⟨nL, hL⟩, hth, m1, m2, m3⟩ := id s1
  obtain ⟨hS2, ⟨hsh2, tk2, hD2⟩, ⟨nL2, hL2⟩, hth2, m4, m5, m6⟩ := id s2
  intro sc prog Q s h₀ L fa cd mg mb u p loose mean fr₁ fr hs F X T N tl O kk
  generalize hb : branch 5 chain = blk
  conv at hb => lhs; whnf
  conv at hs => rhs; whnf
  subst hb
  subst hs
  try dsimp only
  ktr_unf
  rename_i hA1 tA1 o11 fA1 TA1 OA1 R1 nA1 hmA kqZ nwR hZ1 FZ1 NZ1
  (rename SetAt _ S D _ (mk (xs.filter (has ys))) => sA; rename Kp D own _ => kpD; rename New own _ => nwA; rename Kp P _ _ => kpP; rename ((P, PySem.W.listOf pv.toArray _) ∈ _) => hPA)
  (rename Fr h₀ L _ _ => FZ; rename News h₀ L _ _ => NZ; rename Tl [] _ _ => TZ; rename Off _ [] => OZ)
  obtain ⟨aS, ⟨_, _, aD⟩, ⟨_, aL⟩, aT, a1, a2, a3⟩ := sA
  have gz : Good d (mk (xs.filter (has ys))) ∧ only xs ys true = mk (xs.filter (has ys)) := ⟨sel_only dom gx gy ▸ only_good gx true, (sel_only dom gx gy).symm⟩
  rw [gz.2] at hmA
  have nLP : _ ≠ P := fun e => nwA _ hP e.symm
  refine kk _ _ _ _ _ _ TZ (fr_binds FZ (ps := bOut P W NL TT _ k t _ _) (by exact ⟨rfl, rfl, rfl, rfl, rfl, rfl, rfl, rfl, trivial⟩)) NZ OZ ⟨mk (xs.filter (has ys)), _, _, _, _, _, _, rfl, ?_, hmA, kqZ _ hPA, fun p hp h1 _ h3 => kqZ _ (kpP p (kpD p hp h1) h3), .inr nwA, ?_, ?_, eq_str _ _ _, .str _ _, .str _ _, gz.1⟩
  · exact ⟨kqZ _ (kpP _ aS b1), ⟨_, _, kqZ _ (kpP _ aD b2)⟩, ⟨_, kqZ _ (kpP _ aL nLP)⟩, aT, a1, a2, a3⟩
  · exact .inr ((nwR.belowP kpP (nwR _ hPA)).belowP kpD (nwR.belowP kpP (nwR _ hPA) _ aD))
  · exact fun e => nwR.belowP kpP (nwR _ hPA) _ aL e.symm
end
section
example : True := by w_top off; trivial
theorem deed_sub {w : World} {d : List Value} {own : Led} {P W NL : Addr} {TT x : Value} {pv : List Value} {k k' : Nat} {S D Ls T E Lt r q : Addr} {xs ys : List Value} {nr nq np : Nat} {n : Int} {t tn t1 t2 : Tok} (hd : DIn d own P pv k k' S D Ls T E Lt r q xs ys nr nq np) (hx : x ∈ d) :
    Blk w (branch 6 chain) (bIn P W NL TT x r q k n t tn t1 t2) own (DOut d own P W NL TT pv k t S D Ls r) := by
  obtain ⟨dom, htc, hdl, s1, s2, hr, hq, hP, kl, kl', hpl, p1, p2, hkk, gx, gy, ⟨l1, l2, l3, l4, l5, l6⟩, ⟨d1, d2, d3, d4, d5, d6⟩, ⟨b1, b2, b3, b4, b5, b6, b7⟩⟩ := hd
  have hT : ∀ y ∈ d, Th y := fun y hy => (htc y hy).th
  have hxT := hT x hx
  have hxc := htc x hx
  have hx1 := sin_mem hx
  have hx1T : ∀ y ∈ [x], Th y := mem_th hT hx1
  have gxm := gx.mem
  have gym := gy.mem
  have gxT := mem_th hT gxm
  have gyT := mem_th hT gym
  have hlt := dom_lt dom
  have hset := set_self kl p1
  have xl := good_len dom gx hdl
  have yl := good_len dom gy hdl
  obtain ⟨hS, ⟨hsh, tk, hD⟩, ⟨nL, hL⟩, hth, m1, m2, m3⟩ := id s1
  obtain ⟨hS2, ⟨hsh2, tk2, hD2⟩, ⟨nL2, hL2⟩, hth2, m4, m5, m6⟩ := id s2
  intro sc prog Q s h₀ L fa cd mg mb u p loose mean fr₁ fr hs F X T N tl O kk
  generalize hb : branch 6 chain = blk
  conv at hb => lhs; whnf
  conv at hs => rhs; whnf
  subst hb
  subst hs
  try dsimp only
  ktr_unf
  rename_i hA1 tA1 o11 fA1 TA1 OA1 R1 nA1 hmA kqZ nwR hZ1 FZ1 NZ1
  (rename SetAt _ S D _ (mk (xs.filter fun z => !has ys z)) => sA; rename Kp D own _ => kpD; rename New own _ => nwA; rename Kp P _ _ => kpP; rename ((P, PySem.W.listOf pv.toArray _) ∈ _) => hPA)
  (rename Fr h₀ L _ _ => FZ; rename News h₀ L _ _ => NZ; rename Tl [] _ _ => TZ; rename Off _ [] => OZ)
  obtain ⟨aS, ⟨_, _, aD⟩, ⟨_, aL⟩, aT, a1, a2, a3⟩ := sA
  have gz : Good d (mk (xs.filter fun z => !has ys z)) ∧ only xs ys false = mk (xs.filter fun z => !has ys z) := ⟨del_only dom gx gy ▸ only_good gx false, (del_only dom gx gy).symm⟩
  rw [gz.2] at hmA
  have nLP : _ ≠ P := fun e => nwA _ hP e.symm
  refine kk _ _ _ _ _ _ TZ (fr_binds FZ (ps := bOut P W NL TT _ k t _ _) (by exact ⟨rfl, rfl, rfl, rfl, rfl, rfl, rfl, rfl, trivial⟩)) NZ OZ ⟨mk (xs.filter fun z => !has ys z), _, _, _, _, _, _, rfl, ?_, hmA, kqZ _ hPA, fun p hp h1 _ h3 => kqZ _ (kpP p (kpD p hp h1) h3), .inr nwA, ?_, ?_, eq_str _ _ _, .str _ _, .str _ _, gz.1⟩
  · exact ⟨kqZ _ (kpP _ aS b1), ⟨_, _, kqZ _ (kpP _ aD b2)⟩, ⟨_, kqZ _ (kpP _ aL nLP)⟩, aT, a1, a2, a3⟩
  · exact .inr ((nwR.belowP kpP (nwR _ hPA)).belowP kpD (nwR.belowP kpP (nwR _ hPA) _ aD))
  · exact fun e => nwR.belowP kpP (nwR _ hPA) _ aL e.symm
end
section
example : True := by w_top off; trivial
theorem deed_xor {w : World} {d : List Value} {own : Led} {P W NL : Addr} {TT x : Value} {pv : List Value} {k k' : Nat} {S D Ls T E Lt r q : Addr} {xs ys : List Value} {nr nq np : Nat} {n : Int} {t tn t1 t2 : Tok} (hd : DIn d own P pv k k' S D Ls T E Lt r q xs ys nr nq np) (hx : x ∈ d) :
    Blk w (branch 7 chain) (bIn P W NL TT x r q k n t tn t1 t2) own (DOut d own P W NL TT pv k t S D Ls r) := by
  obtain ⟨dom, htc, hdl, s1, s2, hr, hq, hP, kl, kl', hpl, p1, p2, hkk, gx, gy, ⟨l1, l2, l3, l4, l5, l6⟩, ⟨d1, d2, d3, d4, d5, d6⟩, ⟨b1, b2, b3, b4, b5, b6, b7⟩⟩ := hd
  have hT : ∀ y ∈ d, Th y := fun y hy => (htc y hy).th
  have hxT := hT x hx
  have hxc := htc x hx
  have hx1 := sin_mem hx
  have hx1T : ∀ y ∈ [x], Th y := mem_th hT hx1
  have gxm := gx.mem
  have gym := gy.mem
  have gxT := mem_th hT gxm
  have gyT := mem_th hT gym
  have hlt := dom_lt dom
  have hset := set_self kl p1
  have xl := good_len dom gx hdl
  have yl := good_len dom gy hdl
  obtain ⟨hS, ⟨hsh, tk, hD⟩, ⟨nL, hL⟩, hth, m1, m2, m3⟩ := id s1
  obtain ⟨hS2, ⟨hsh2, tk2, hD2⟩, ⟨nL2, hL2⟩, hth2, m4, m5, m6⟩ := id s2
  have go1 := (only_good (ys := ys) gx false).mem
  have go2 := (only_good (ys := xs) gy false).mem
  have ol1 := good_len dom (only_good (ys := ys) gx false) hdl
  have ol2 := good_len dom (only_good (ys := xs) gy false) hdl
  intro sc prog Q s h₀ L fa cd mg mb u p loose mean fr₁ fr hs F X T N tl O kk
  generalize hb : branch 7 chain = blk
  conv at hb => lhs; whnf
  conv at hs => rhs; whnf
  subst hb
  subst hs
  try dsimp only
  ktr_unf
  rename_i hA1 tA1 o11 fA1 TA1 OA1 R1 nA1 hm1 kq1 nw1 hA2 tA2 o12 fA2 TA2 OA2 R2 nA2 hm2 kq2 nw2 hA3 tA3 o13 fA3 TA3 OA3 R3 nA3 hmA kq3 or3 hZ1 FZ1 NZ1
  have kqZ := kq1.trans (kq2.trans kq3)
  have nwR := nw_or or3 nw1 (kq1.trans kq2)
  (rename SetAt _ S D _ (symd xs ys) => sA; rename Kp D own _ => kpD; rename New own _ => nwA; rename Kp P _ _ => kpP; rename ((P, PySem.W.listOf pv.toArray _) ∈ _) => hPA)
  (rename Fr h₀ L _ _ => FZ; rename News h₀ L _ _ => NZ; rename Tl [] _ _ => TZ; rename Off _ [] => OZ)
  obtain ⟨aS, ⟨_, _, aD⟩, ⟨_, aL⟩, aT, a1, a2, a3⟩ := sA
  have gz : Good d (symd xs ys) ∧ put (only xs ys false) (only ys xs false) = symd xs ys := ⟨by rw [sym_put dom gx gy, (add_good dom _ _ (only_good (ys := ys) gx false) go2).2]; exact (add_good dom _ _ (only_good (ys := ys) gx false) go2).1, (sym_put dom gx gy).symm⟩
  rw [gz.2] at hmA
  have nLP : _ ≠ P := fun e => nwA _ hP e.symm
  refine kk _ _ _ _ _ _ TZ (fr_binds FZ (ps := bOut P W NL TT _ k t _ _) (by exact ⟨rfl, rfl, rfl, rfl, rfl, rfl, rfl, rfl, trivial⟩)) NZ OZ ⟨symd xs ys, _, _, _, _, _, _, rfl, ?_, hmA, kqZ _ hPA, fun p hp h1 _ h3 => kqZ _ (kpP p (kpD p hp h1) h3), .inr nwA, ?_, ?_, eq_str _ _ _, .str _ _, .str _ _, gz.1⟩
  · exact ⟨kqZ _ (kpP _ aS b1), ⟨_, _, kqZ _ (kpP _ aD b2)⟩, ⟨_, kqZ _ (kpP _ aL nLP)⟩, aT, a1, a2, a3⟩
  · exact .inr ((nwR.belowP kpP (nwR _ hPA)).belowP kpD (nwR.belowP kpP (nwR _ hPA) _ aD))
  · exact fun e => nwR.belowP kpP (nwR _ hPA) _ aL e.symm
end
section
example : True := by w_top off; trivial
section
variable {prog : Program} {w : World} {A : Around} {E : Value → Shared → Prop} {s : Shared} {L S D Ls : Addr} {h₀ : Heap} {m mg mb : Str → Option Value} {own fr₁ fr news : Led} {env : Env} {outer : List Env} {p : Program} {loose : List Str} {mean : ExcName → Option Value} {xs : List Value}
theorem walkAll {I l : Addr} (hh : A.handled = none) (hne : l ≠ I) (vs : List Value) : Walks prog w A I [I, l] [I] vs.length (fun i v => vs[i]? = some v) (fun i h => h.IsListIter I l i ∧ h.IsList l vs.toArray) := by
  have W := Walks.list (prog := prog) (w := w) hh I l hne vs.toArray
  have hlen : vs.toArray.size = vs.length := by simp
  rw [hlen] at W
  simpa using W
/-- the length's hint of a set of ours -/
theorem hint_set {Q : Bool → Shared → Prop} (hA : Fits A 378 780 (env :: outer)) (hf : env.frame = some L) (hk : env.scope.kind = .function) (F : Fr h₀ L s.heap m) (X : (Mine.hd.heap_39 w.params).In h₀) (T : Top p loose mean mg mb h₀) (N : News h₀ L s.heap (own ++ fr)) (t : Tl outer fr₁ fr) (O : Off own outer)
    (h : SetAt own S D Ls xs) (hz : xs.length ≤ 1000) (k : ∀ b h' tk' fr', Tl outer fr₁ fr' → Fr h₀ L h' m → News h₀ L h' (own ++ fr') → Q b { s with heap := h', toks := tk' }) : wpAny (model prog w) A (Builtin.List.listLengthHint (.ref S)) Q E s := by
  obtain ⟨hsh, tk, hD⟩ := h.hD
  have I := InstAt.of_news N (List.mem_append_left _ h.hS) (List.mem_append_left _ hD)
  have key : ∀ Q' : Value → Shared → Prop, (∀ n h' tk' t' fr', 0 ≤ n → n ≤ 1000 → Tl outer fr₁ fr' → Fr h₀ L h' m → News h₀ L h' (own ++ fr') → Q' (.int n t') { s with heap := h', toks := tk' }) → ∀ E', wpAny (model prog w) A (call (.builtin "len") [.ref S]) Q' E' s := fun Q' kk E' => by
    refine PySem.W.len_K (C := 306) (f := 44) F X I (by k_is) (by k_is) ?_
    have hA' : Fits A.in1 380 800 (env :: outer) := ⟨hA.handled, Nat.le_trans hA.depth (by decide), hA.frames, hA.guards, Nat.le_trans (Nat.succ_le_succ hA.units) (by decide)⟩
    refine Con.use (c_len h hz) hA' hf hk F X T N Cut.base t O ?_
    rintro v' h' tk' own' fr' t' F' N' O' ⟨rfl, tk2, rfl⟩
    exact ⟨⟨by omega, by omega⟩, kk _ _ _ _ _ (by omega) (by omega) t' F' N'⟩
  unfold Builtin.List.listLengthHint
  refine wpAny_bind (m := specialOf (.ref S) (Str.ofString "__len__")) (wpAny_bind (I.type.here ((looks_findIn (X.keeps F.keep) (show findIn (Mine.hd.heap_39 w.params) (.ref 306) "__len__" = some (some (.ref 44)) by k_is)).here ?_)))
  refine wpAny_ite_split (fun hab => absurd hab (by decide)) (fun _ => ?_)
  refine wpAny_ite_split (fun _ => ?_) (fun hab => absurd rfl hab)
  refine wpAny_bind (wpAny_rule ?_)
  refine wpAny_bind (wpAny_attempt (key _ (fun n h' tk' t' fr' h0 h1 T' F' N' => ?_) _))
  have htl : Builtin.List.listTooLong (n.toNat) = false := by simp [Builtin.List.listTooLong, sizeLine]; omega
  refine wpAny_bind (m := asInt? _) (wpAny_pure ?_)
  exact wpAny_ite_split (fun hab => absurd hab (by rw [htl]; decide)) (fun _ => wpAny_pure (k _ _ _ _ T' F' N'))
end
end
section
example : True := by w_top off; trivial
section
variable {prog : Program} {w : World} {A : Around} {E : Value → Shared → Prop} {s : Shared} {L S D Ls D0 : Addr} {h₀ : Heap} {m mg mb : Str → Option Value} {own fr₁ fr news : Led} {env : Env} {outer : List Env} {p : Program} {loose : List Str} {mean : ExcName → Option Value} {xs : List Value}
theorem acc_all {xs : List Value} {acc : Array Value} (h : ItemsOf (fun i v => xs[i]? = some v) acc xs.length) : acc = xs.toArray := by
  apply Array.toList_inj.mp
  rw [List.toList_toArray]
  refine List.ext_getElem? fun i => ?_
  cases q : acc.toList[i]? with
  | some v =>
    rw [Array.getElem?_toList] at q
    exact (h.2 i v q).symm
  | none =>
    have : acc.toList.length ≤ i := List.getElem?_eq_none_iff.mp q
    rw [Array.length_toList, h.1] at this
    exact (List.getElem?_eq_none_iff.mpr this).symm
theorem ext_set {R : Result → Shared → Prop} {c₀ : Nat} {res : Value} (hA : Fits A 377 778 (env :: outer)) (hf : env.frame = some L) (hk : env.scope.kind = .function) (F : Fr h₀ L s.heap m) (X : (Mine.hd.heap_39 w.params).In h₀) (T : Top p loose mean mg mb h₀) (N : News h₀ L s.heap (own ++ fr)) (t : Tl outer fr₁ fr) (O : Off own outer)
    (h : SetAt own S D Ls xs) (hz : xs.length ≤ 1000) (hD0 : (D0, listOf (#[] : Array Value) c₀) ∈ own) (hne : D0 ≠ Ls)
    (hR : ∀ h' tk c' fr', Tl outer fr₁ fr' → Fr h₀ L h' m → (∀ p ∈ own ++ fr', p.1 ≠ D0 → h'.get? p.1 = some p.2 ∧ p.1 ≠ L ∧ h₀.get? p.1 = none) → h'.get? D0 = some (listOf xs.toArray c') → R (.ok (.ret res)) { s with heap := h', toks := tk }) :
    wpAny (model prog w) A.in1 (Builtin.List.listExtendWith (.ref D0) (.ref S) res)
      (fun fin s' => match fin with | .done f => R (.ok f) s' | .again c' => c'.quiet = true ∧ codeAny (model prog w) A c' R s') (fun e s' => R (.error e) s') s := by
  obtain ⟨hsh, tk, hD⟩ := h.hD
  obtain ⟨nL, hL⟩ := h.hL
  have hI := InstAt.of_news N (List.mem_append_left _ h.hS) (List.mem_append_left _ hD)
  have hA1 : Fits A.in1 377 779 (env :: outer) := hA.in1
  have hSD : D0 ≠ S := ne_of_objs N (List.mem_append_left _ hD0) (List.mem_append_left _ h.hS) (fun q => by cases q)
  have hDL : D0 ∉ frs outer := O _ hD0
  have hfrD : ∀ {fr' : Led}, Tl outer fr₁ fr' → ∀ p ∈ fr', p.1 ≠ D0 := fun t' p hp e => hDL (by rw [frs, t'.1.addrs, ← e]; exact List.mem_map_of_mem hp)
  unfold Builtin.List.listExtendWith
  refine wpAny_bind (hI.type.here ?_)
  have h1 : Builtin.List.listSameRef (.ref D0) (.ref S) = false := by simp [Builtin.List.listSameRef, hSD]
  have h2 : (Value.ref 306 == Value.type "list") = false := by decide
  have h3 : (Value.ref 306 == Value.type "tuple") = false := by decide
  simp only [h1, h2, h3, Bool.or_false, Bool.false_eq_true, if_false]
  refine wpAny_bind (owit_iter (C := 306) (f := 58) F X hI (by k_is) (by k_is) ?_)
  refine Con.use (c_iter h hz) ⟨hA1.handled, Nat.le_trans hA1.depth (by decide), hA1.frames, hA1.guards, Nat.le_trans hA1.units (by decide)⟩ hf hk F X T N Cut.base t O ?_
  rintro v' h1 tk' own' fr' t' F' N' O' ⟨I, rfl, rfl, nI⟩
  unfold OwitIt
  have hIo := N' _ (List.mem_append_left _ (.head _))
  refine wpAny_specialOf (T := "list_iterator") ⟨_, hIo.1, rfl⟩ slot_listiter_next.lookup ?_
  dsimp only
  refine wpAny_bind (wpAny_holding (hint_set (own := (I, itObj Ls) :: own) (s := { s with heap := h1, toks := tk' }) ⟨hA1.handled, Nat.le_trans hA1.depth (by decide), hA1.frames, hA1.guards, Nat.le_trans hA1.units (by decide)⟩ hf hk F' X T N' t' O' (h.toQ fun p hp => .tail _ hp) hz fun b h2 tk2 fr2 T2 F2 N2 => ?_))
  have hDI : D0 ≠ I := nI _ hD0
  have hLI : Ls ≠ I := nI _ hL
  have W := (walkAll (prog := prog) (w := w) (A := A.in1) (I := I) hA.handled hLI xs).toS
  have oth : ∀ (h3 : Heap), (∀ b o, b ≠ D0 → h2.get? b = some o → h3.get? b = some o) → (∃ c, h3.get? D0 = some (listOf (#[] : Array Value) c)) → ∀ tk3, codeAny (model prog w) A (.builtin "list.extend.loop" ⟨[.ref D0, .ref I, res], []⟩) R { s with heap := h3, toks := tk3 } := by
    intro h3 k3 hc tk3
    obtain ⟨c, hc⟩ := hc
    have hi3 : h3.get? I = some (itObj Ls) := k3 _ _ (Ne.symm hDI) (N2 _ (List.mem_append_left _ (.head _))).1
    have hl3 : h3.get? Ls = some (listOf xs.toArray nL) := k3 _ _ (Ne.symm hne) (N2 _ (List.mem_append_left _ (.tail _ hL))).1
    refine codeAny_extend_loopS W (sizeLine_ge (by omega)) D0 (by simp [hDI, hne]) res xs.length 0 _ #[] c (Nat.sub_zero _) (Nat.zero_le _) ⟨⟨_, hi3, rfl, rfl⟩, ⟨_, hl3, rfl, nL, rfl⟩⟩ hc (ItemsOf.nil _) fun s' acc' c' hm hS' hacc => ?_
    rw [Moved.eq_with hm]
    have hmove : ∀ b o, b ≠ D0 → b ≠ I → h2.get? b = some o → s'.heap.get? b = some o := fun b o hb hbI e => hm.heap b o (fun hmem => by
      rcases List.mem_cons.mp hmem with e' | hmem
      · exact hb e'
      · exact hbI (List.mem_singleton.mp hmem)) (k3 b o hb e)
    have hI0 : h₀.get? I = none := hIo.2.2
    have hIL : I ≠ L := hIo.2.1
    have hD00 : h₀.get? D0 = none := (N _ (List.mem_append_left _ hD0)).2.2
    have hDL' : D0 ≠ L := (N _ (List.mem_append_left _ hD0)).2.1
    obtain ⟨oL, es, ep, hoL, hr⟩ := F2.ns
    refine hR s'.heap s'.toks c' fr2 T2 ⟨⟨oL, es, ep, hmove _ _ (Ne.symm hDL') (Ne.symm hIL) hoL, hr⟩, fun b o e => hmove b o (fun q => by rw [q, hD00] at e; cases e) (fun q => by rw [q, hI0] at e; cases e) (F2.keep b o e), F2.above⟩ (fun p hp hpD => ?_) ?_
    · have hp2 : p ∈ (I, itObj Ls) :: own ++ fr2 := by
        rcases List.mem_append.mp hp with hp | hp
        · exact List.mem_append_left _ (.tail _ hp)
        · exact List.mem_append_right _ hp
      have z := N2 p hp2
      refine ⟨hmove _ _ hpD (fun q => ?_) z.1, z.2⟩
      rcases List.mem_append.mp hp with hp | hp
      · exact nI p hp q
      · refine O' _ (.head _) ?_
        show I ∈ frs outer
        rw [frs, T2.1.addrs, ← q]
        exact List.mem_map_of_mem hp
    · rw [hS', acc_all hacc]
  have hD2 := (N2 _ (List.mem_append_left _ (.tail _ hD0))).1
  refine wpAny_ite_split (fun _ => ?_) (fun _ => wpAny_pure ⟨plainId_quiet PySem.F.plain_extend_loop _, oth h2 (fun b o _ e => e) ⟨_, hD2⟩ _⟩)
  refine wpAny_bind (wpAny_rule ?_)
  refine wpAny_bind ?_
  show wpAny _ _ (updateSeq D0 (·.push .none) >>= fun _ => updateSeq D0 (·.pop)) _ _ _
  refine wpAny_bind (wpAny_updateSeq hD2 rfl ?_)
  have hS₂ := Heap.get?_update_self (Obj.mapSeq (·.push Value.none)) hD2 rfl
  refine wpAny_updateSeq (hz := by seq_fits) hS₂ rfl ?_
  have hS₃ := Heap.get?_update_self (Obj.mapSeq (·.pop)) hS₂ rfl
  refine wpAny_pure ⟨plainId_quiet PySem.F.plain_extend_loop _, oth _ (fun b o hb e => ?_) ⟨_, hS₃⟩ _⟩
  exact (Heap.get?_update_other _ _ (Ne.symm hb)).trans ((Heap.get?_update_other _ _ (Ne.symm hb)).trans e)
/-- list(a set of ours) -/
theorem list_set {Q : Value → Shared → Prop} (hA : Fits A 375 770 (env :: outer)) (hf : env.frame = some L) (hk : env.scope.kind = .function) (F : Fr h₀ L s.heap m) (X : (Mine.hd.heap_39 w.params).In h₀) (T : Top p loose mean mg mb h₀) (N : News h₀ L s.heap news) (hc : Cut news own fr) (t : Tl outer fr₁ fr) (O : Off own outer)
    (h : SetAt own S D Ls xs) (hz : xs.length ≤ 1000)
    (k : ∀ R c h' tk' own' fr', Tl outer fr₁ fr' → Fr h₀ L h' m → News h₀ L h' (own' ++ fr') → Off own' outer → New own R → Kq own own' → (R, listOf xs.toArray c) ∈ own' → Q (.ref R) { s with heap := h', toks := tk' }) : wpAny (model prog w) A (call (.type "list") [.ref S]) Q E s := by
  unfold Cut at hc
  subst hc
  refine callType_codes (Q₁ := fun obj s₁ => obj = .ref s.heap.objs.size ∧ s₁ = { s with heap := s.heap.push { cls := .type "list", data := .seq #[] } }) PySem.F.called_list (PySem.F.typeCall_list_1 _) PySem.F.entry_list_init
    (code_list_new _ ⟨rfl, rfl⟩) fun obj s₁ h₁ => ?_
  obtain ⟨rfl, rfl⟩ := h₁
  have F0 := F.push { cls := .type "list", data := .seq #[] }
  have N0 := News.push F N { cls := .type "list", data := .seq #[] }
  have hS : (s.heap.push { cls := .type "list", data := .seq #[] }).get? s.heap.objs.size = some { cls := .type "list", data := .seq #[] } := Heap.get?_push_size _ rfl
  obtain ⟨n0, O0⟩ := new_front t O (listOf (#[] : Array Value) 0) (fun p hp => Heap.lt_size (N p hp).1)
  refine ⟨⟨_, hS, rfl⟩, PySem.F.args_list_init_2 _ _, ?_⟩
  generalize s.heap.push { cls := .type "list", data := .seq #[] } = h0 at F0 N0 hS
  generalize s.heap.objs.size = D0 at F0 N0 hS n0 O0
  show wpAny _ _ (do let old ← Builtin.List.listItems (.ref D0); Builtin.List.listUpdate (.ref D0) (fun _ => #[]); letGo old.toList.reverse; Builtin.List.listExtendWith (.ref D0) (.ref S) .none) _ _ _
  refine wpAny_bind ?_
  unfold Builtin.List.listItems
  refine wpAny_bind (wpAny_seqItems hS rfl (wpAny_pure ?_))
  show wpAny _ _ (updateSeq D0 (fun _ => #[]) >>= fun _ => letGo (#[] : Array Value).toList.reverse >>= fun _ => Builtin.List.listExtendWith (.ref D0) (.ref S) .none) _ _ _
  refine wpAny_bind (wpAny_updateSeq hS rfl ?_)
  refine list_turn (s := { s with heap := h0 }) (D := D0) (xs := []) (n := 0) (Q := fun _ s' => wpAny _ _ _ _ _ s') (fun _ => #[]) [] F0 N0 Cut.b1 (.head _) t O0 rfl .none (fun h1 own1 n1 kp1 hm1 O1 F1 N1 => ?_)
  have kq1 : Kq own own1 := fun p hp => kp1 p (.tail _ hp) (n0 p hp)
  refine wpAny_bind (wpAny_letGo ?_)
  obtain ⟨nL, hL⟩ := h.hL
  refine ext_set (A := A.in1) (s := { s with heap := h1 }) (own := own1) ⟨hA.handled, Nat.le_trans hA.depth (by decide), hA.frames, hA.guards, Nat.le_trans (Nat.succ_le_succ hA.units) (by decide)⟩ hf hk F1 X T N1 t O1 (h.toQ kq1) hz hm1 (ne_flip (n0 _ hL)) fun h2 tk2 c2 fr2 T2 F2 N2 hD2 => ?_
  have z := N0 _ (.head _)
  refine ⟨rfl, k D0 c2 h2 tk2 ((D0, listOf xs.toArray c2) :: own) fr2 T2 F2 (fun p hp => ?_) (Off.cons (O0 _ (.head _)) O) n0 (fun p hp => .tail _ hp) (.head _)⟩
  rcases List.mem_append.mp hp with hp | hp
  · rcases List.mem_cons.mp hp with e | hp
    · rw [e]; exact ⟨hD2, z.2⟩
    · exact N2 p (List.mem_append_left _ (kq1 p hp)) (n0 p hp)
  · refine N2 p (List.mem_append_right _ hp) fun e => O0 _ (.head _) ?_
    show D0 ∈ frs outer
    rw [frs, T2.1.addrs, ← e]
    exact List.mem_map_of_mem hp
end
end
section
example : True := by w_top off; trivial
/-- two values that are told equal -/
inductive Eqv (own : Led) : Value → Value → Prop
  | same (v : Value) : Eqv own v v
  | th {v u : Value} : Th v → Th u → eqV v u = true → Eqv own v u
  | lst {a b : Addr} {xs ys : List Value} {n m : Nat} : (a, listOf xs.toArray n) ∈ own → (b, listOf ys.toArray m) ∈ own → (∀ x ∈ xs, Th x) → (∀ y ∈ ys, Th y) → eqL xs ys = true → Eqv own (.ref a) (.ref b)
/-- two lists whose things are told equal, place by place -/
def Same (own : Led) (a b : Addr) : Prop := ∃ (vs us : List Value) (n m : Nat), (a, listOf vs.toArray n) ∈ own ∧ (b, listOf us.toArray m) ∈ own ∧ vs.length = us.length ∧ ∀ j, j < vs.length → Eqv own (vs.getD j .none) (us.getD j .none)
section
variable {prog : Program} {w : World} {A : Around} {E : Value → Shared → Prop} {s : Shared} {h₀ : Heap} {L a b : Addr} {news own fr : Led}
theorem eqv_at (N : News h₀ L s.heap news) (hc : Cut news own fr) {v u : Value} (h : Eqv own v u) (hu : A.units < cLine) : PySem.SeqAt.EqAt A s v u true := by
  cases h with
  | same v => exact PySem.SeqAt.EqAt.same v
  | th hv hw e => rw [← e]; exact th_eqAt hv hw
  | @lst a b xs ys n m ha hb hx hy e =>
    by_cases q : a = b
    · rw [q]; exact PySem.SeqAt.EqAt.same _
    · have := eqAt_lists (A := A) N hc ha hb hx hy hu
      rw [e] at this
      exact PySem.SeqAt.EqAt.of_refs q this
theorem same_at (N : News h₀ L s.heap news) (hc : Cut news own fr) (h : Same own a b) (hu : A.units + 1 < cLine) :
    PySem.SeqAt.RcAt A s (.ref a) (.ref b) true ∧ PySem.SeqAt.RcNeAt A s (.ref a) (.ref b) false := by
  obtain ⟨vs, us, n, m, ha, hb, hl, he⟩ := h
  have i1 : s.heap.IsList a vs.toArray := ⟨_, (N _ (hc.mem ha)).1, rfl, _, rfl⟩
  have i2 : s.heap.IsList b us.toArray := ⟨_, (N _ (hc.mem hb)).1, rfl, _, rfl⟩
  have key : ∀ (A' : Around), A'.units < cLine → ∀ (j : Nat) (h1 : j < vs.toArray.size) (h2 : j < us.toArray.size), PySem.SeqAt.EqAt A' s vs.toArray[j] us.toArray[j] true := fun A' hu' j h1 h2 => by
    have h1' : j < vs.length := by simpa using h1
    have h2' : j < us.length := by simpa using h2
    have e1 : vs.toArray[j] = vs.getD j .none := by simp [List.getD, h1']
    have e2 : us.toArray[j] = us.getD j .none := by simp [List.getD, h2']
    rw [e1, e2]
    exact eqv_at N hc (he j h1') hu'
  constructor
  · have := PySem.SeqAt.RcAt.lists (A := A) (e := fun _ => true) i1 i2 (by simpa using hl) (by omega) (fun j h1 h2 => key _ (by first | exact hu | omega) j h1 h2)
    rw [List.all_eq_true.mpr fun _ _ => rfl] at this
    exact this
  · have := PySem.SeqAt.RcNeAt.lists (A := A) (e := fun _ => true) i1 i2 (by simpa using hl) (by omega) (fun j h1 h2 => key _ (by first | exact hu | omega) j h1 h2)
    rw [List.all_eq_true.mpr fun _ _ => rfl] at this
    exact this
theorem eq_same {Q : Value → Shared → Prop} (N : News h₀ L s.heap news) (hc : Cut news own fr) (h : Same own a b) (hu : A.units + 1 < cLine) (k : Q (.bool true) s) : wpAny (model prog w) A (compareOp .Eq (.ref a) (.ref b)) Q E s := (same_at N hc h hu).1 prog w E Q k
theorem ne_same {Q : Value → Shared → Prop} (N : News h₀ L s.heap news) (hc : Cut news own fr) (h : Same own a b) (hu : A.units + 1 < cLine) (k : Q (.bool false) s) : wpAny (model prog w) A (compareOp .NotEq (.ref a) (.ref b)) Q E s := (same_at N hc h hu).2 prog w E Q k
end
theorem eqL_self {xs : List Value} (h : ∀ x ∈ xs, eqV x x = true) : eqL xs xs = true := by
  induction xs with
  | nil => rfl
  | cons x xs ih => exact (Bool.and_eq_true _ _).mpr ⟨h x (.head _), ih fun y hy => h y (.tail _ hy)⟩
theorem th_refl {v : Value} (h : Th v) : eqV v v = true := by cases h <;> simp [eqV]
/-- the same row twice -/
theorem Eqv.row {own : Led} {a b : Addr} {xs : List Value} {n m : Nat} (ha : (a, listOf xs.toArray n) ∈ own) (hb : (b, listOf xs.toArray m) ∈ own) (hx : ∀ x ∈ xs, Th x) : Eqv own (.ref a) (.ref b) := .lst ha hb hx hx (eqL_self fun x h => th_refl (hx x h))
end
local macro_rules | `(tactic| walk_at "call type:list") => `(tactic| (k_here; (with_reducible show wpAny _ _ (call (Value.type _) [Value.ref _]) _ _ _); k_dflt ((refine' list_set ?hA ?hf ?hk ?F ?X ?T ?N ?hc ?t ?O ?h ?z (fun R9 c9 h9 tk9 own9 fr9 T9 F9 N9 O9 nw9 kq9 hm9 => ?_)); (case N => k_asm); (case hc => acc_binds); (case h => acc_peel); (case z => first | assumption | omega); (case hA => acc_state); (case hf => rfl); (case hk => rfl); (case F => k_asm); (case X => k_asm); (case T => k_asm); (case t => with_reducible assumption); (case O => acc_keepN))))
section
example : True := by w_top off; trivial
abbrev bLaw (P W NL : Addr) (TT : Value) : List (Str × Value) := [("pair", .ref P), ("rows", .ref W), ("numbers", .ref NL), ("things", TT)]
local macro_rules | `(tactic| walk_at "compareOp NotEq ref ref") => `(tactic| refine Hold.of ?_)
theorem tail_blk {w : World} {own : Led} {P W NL : Addr} {TT : Value} {wv : List Value} {k : Nat} {S0 D0 L0 S1 D1 L1 ra rb r' : Addr} {xs ys : List Value} {na nb np nW : Nat} {t : Tok} {told due : Value} (s1 : SetAt own S0 D0 L0 xs) (s2 : SetAt own S1 D1 L1 ys) (ha : (ra, listOf xs.toArray na) ∈ own) (hb : (rb, listOf ys.toArray nb) ∈ own) (hP : (P, listOf [.ref S0, .ref S1].toArray np) ∈ own) (hW : (W, listOf wv.toArray nW) ∈ own)
    (hk : k < wv.length) (hwl : wv.length ≤ 1000) (hset : wv.set k (.ref r') = [.ref ra, .ref rb]) (nW : S0 ≠ W ∧ D0 ≠ W ∧ L0 ≠ W ∧ S1 ≠ W ∧ D1 ≠ W ∧ L1 ≠ W ∧ ra ≠ W ∧ rb ≠ W ∧ P ≠ W) (xl : xs.length ≤ 8) (yl : ys.length ≤ 8) (hT : Th told) (hD : Th due) (he : eqV told due = true) :
    Blk w (loopBody.drop 4) (bOut P W NL TT r' k t told due) own (fun b' own' => b' = bLaw P W NL TT ∧ Kp W own own' ∧ ∃ n, (W, listOf [.ref ra, .ref rb].toArray n) ∈ own') := by
  obtain ⟨w1, w2, w3, w4, w5, w6, w7, w8, w9⟩ := nW
  obtain ⟨hS, ⟨hsh, tk, hDD⟩, ⟨nL, hL⟩, hth, m1, m2, m3⟩ := id s1
  obtain ⟨hS2, ⟨hsh2, tk2, hD2⟩, ⟨nL2, hL2⟩, hth2, m4, m5, m6⟩ := id s2
  have hp0 : ([.ref S0, .ref S1] : List Value).getD 0 .none = .ref S0 := rfl
  have hp1 : ([.ref S0, .ref S1] : List Value).getD 1 .none = .ref S1 := rfl
  have hpl : ([.ref S0, .ref S1] : List Value).length ≤ 1000 := Nat.le_of_ble_eq_true rfl
  have hl0 : 0 < ([.ref S0, .ref S1] : List Value).length := Nat.le_of_ble_eq_true rfl
  have hl1 : 1 < ([.ref S0, .ref S1] : List Value).length := Nat.le_of_ble_eq_true rfl
  intro sc prog Q s h₀ L fa cd mg mb u p loose mean fr₁ fr hs F X T N tl O kk
  generalize hb : loopBody.drop 4 = blk
  conv at hb => lhs; whnf
  conv at hs => rhs; whnf
  subst hb
  subst hs
  try dsimp only
  ktr_unf
  unfold Hold
  rename_i hA oA nA kpA hmA OA FA NA RB cB hB tkB oB frB TB FB NB OB nwB kqB hmB RC cC hC tkC oC frC TC FC NC OC nwC kqC hmC DZ hZ nwZ OZ FZ NZ
  have kqAC := kqB.trans kqC
  refine ne_same NZ Cut.b1 ⟨[.ref RB, .ref RC], [.ref ra, .ref rb], _, _, .head _, .tail _ (kqAC _ hmA), rfl, fun j hj => ?_⟩ (Nat.le_of_ble_eq_true rfl) ?_
  · rcases j with _ | _ | j
    · exact Eqv.row (.tail _ (kqC _ hmB)) (.tail _ (kqAC _ (kpA _ ha w7))) hth
    · exact Eqv.row (.tail _ hmC) (.tail _ (kqAC _ (kpA _ hb w8))) hth2
    · exact absurd hj (by simp)
  · ktr_unf
    exact kk _ _ (_ :: oC) _ _ _ TC (fr_binds FZ (ps := bLaw P W NL TT) (by exact ⟨rfl, rfl, rfl, rfl, trivial⟩)) NZ OZ ⟨rfl, fun p hp n => .tail _ (kqAC _ (kpA p hp n)), _, .tail _ (kqAC _ hmA)⟩
end
local macro_rules | `(tactic| walk_at "none") => `(tactic| fail)
local macro_rules | `(tactic| walk_at "none") => `(tactic| fail)
section
example : True := by w_top off; trivial
section
variable {prog : Program} {w : World} {A : Around} {E : Value → Shared → Prop} {s : Shared} {h₀ : Heap} {L ta : Addr} {m : Str → Option Value} {d : List Value} {i : Int} {k : Nat} {u : Tok} {v : Value}
theorem item_tup {Q : Value → Shared → Prop} {value slice : PySem.Expr} (F : Fr h₀ L s.heap m) (ht : h₀.IsTuple ta d.toArray) (hi : i = (k : Int)) (hv : d.getD k .none = v) (hk : k < d.length) (hz : d.length ≤ 1000) (h : Q v s)
    (hs : subscripted slice false (.ref ta) (.int i u) = operate [.ref ta, .int i u] (getItem (.ref ta) (.int i u)) := by with_unfolding_all rfl) (hg : ∀ r, letTemporaryGo value (.ref ta) r = pure () := by intro _; with_unfolding_all rfl) :
    wpAny (model prog w) A (subscriptTail value slice (.ref ta) (.int i u)) Q E s := by
  subst hi
  subst hv
  exact item_tupleL (l := d) (j := k) (Fr.tup F ht) (by omega) (by omega) ((PySem.seqIndex_of (by omega) (by omega)).trans (congrArg some (by omega))) (by simp [List.getD, hk]) h hs hg
end
theorem Blk.use {w : World} {blk : List Stmt} {b : List (Str × Value)} {own : Led} {R : List (Str × Value) → Led → Prop} (c : Blk w blk b own R) {blk' : List Stmt} (hb : blk' = blk)
    {sc : Scope} {prog : Program} {Q : Flow → Shared → Prop} {s : Shared} {h₀ : Heap} {L fa : Addr} {cd : Value} {m mg mb : Str → Option Value} {p : Program} {loose : List Str} {mean : ExcName → Option Value} {fr₁ fr news : Led}
    (hs : sc = lawScope) (F : Fr h₀ L s.heap m) (hm : kbOk m b) (X : (Mine.hd.heap_39 w.params).In h₀) (T : Top p loose mean mg mb h₀) (N : News h₀ L s.heap news) (hc : Cut news own fr) (t : Tl [] fr₁ fr) (O : Off own [])
    (k : ∀ h' tk' own' fr' b' u', Tl [] fr₁ fr' → Fr h₀ L h' (kb b' u') → News h₀ L h' (own' ++ fr') → Off own' [] → R b' own' → Q .next { s with heap := h', toks := tk' }) :
    wpAny (model prog w) (AC 302 7 [envOfC "law" sc L fa cd]) (execs blk' (envOfC "law" sc L fa cd)) Q (fun _ _ => False) s := by
  subst hb
  unfold Cut at hc
  subst hc
  exact c hs (fr_binds F hm) X T N t O k
theorem tail2 {w : World} {own : Led} {P W NL : Addr} {TT : Value} {pv wv : List Value} {k k' : Nat} {S D Ls T E Lt r q r' : Addr} {xs ys : List Value} {na nb np nW : Nat} {t : Tok} {told due : Value}
    (hk01 : (k = 0 ∧ k' = 1 ∧ pv = [.ref S, .ref T] ∧ wv = [.ref r, .ref q]) ∨ (k = 1 ∧ k' = 0 ∧ pv = [.ref T, .ref S] ∧ wv = [.ref q, .ref r]))
    (s1 : SetAt own S D Ls xs) (s2 : SetAt own T E Lt ys) (ha : (r', listOf xs.toArray na) ∈ own) (hb : (q, listOf ys.toArray nb) ∈ own) (hP : (P, listOf pv.toArray np) ∈ own) (hW : (W, listOf wv.toArray nW) ∈ own)
    (nW : S ≠ W ∧ D ≠ W ∧ Ls ≠ W ∧ T ≠ W ∧ E ≠ W ∧ Lt ≠ W ∧ r' ≠ W ∧ q ≠ W ∧ P ≠ W) (xl : xs.length ≤ 8) (yl : ys.length ≤ 8) (hT : Th told) (hD : Th due) (he : eqV told due = true) :
    Blk w (loopBody.drop 4) (bOut P W NL TT r' k t told due) own (fun b' own' => b' = bLaw P W NL TT ∧ Kp W own own' ∧ ∃ n, (W, listOf (wv.set k (.ref r')).toArray n) ∈ own') := by
  obtain ⟨w1, w2, w3, w4, w5, w6, w7, w8, w9⟩ := nW
  rcases hk01 with ⟨rfl, rfl, rfl, rfl⟩ | ⟨rfl, rfl, rfl, rfl⟩
  · exact tail_blk s1 s2 ha hb hP hW (by simp) (by simp) rfl ⟨w1, w2, w3, w4, w5, w6, w7, w8, w9⟩ xl yl hT hD he
  · exact tail_blk s2 s1 hb ha hP hW (by simp) (by simp) rfl ⟨w4, w5, w6, w1, w2, w3, w8, w7, w9⟩ yl xl hT hD he
end
local macro_rules | `(tactic| walk_at "subscriptTail") => `(tactic| (k_here; (with_reducible show wpAny _ _ (subscriptTail _ _ (Value.ref _) (Value.int _ _)) _ _ _); (with_unfolding_all refine' item_tup (by k_asm) ?ht ?k1 ?k0 ?k2 (by first | assumption | omega) ?_; (case ht => with_reducible assumption); (case k1 => with_reducible assumption); (case k0 => with_reducible assumption); (case k2 => with_reducible assumption))))
section
example : True := by w_top off; trivial
def chainS : Stmt := match loopBody.drop 3 with | s :: _ => s | [] => default
/-- what a statement of the law does -/
def BlkE (w : World) (st : Stmt) (b : List (Str × Value)) (own : Led) (R : List (Str × Value) → Led → Prop) : Prop :=
  ∀ {sc : Scope} {prog : Program} {Q : Flow → Shared → Prop} {s : Shared} {h₀ : Heap} {L fa : Addr} {cd : Value} {mg mb u : Str → Option Value} {p : Program} {loose : List Str} {mean : ExcName → Option Value} {fr₁ fr : Led},
    sc = lawScope → Fr h₀ L s.heap (kb b u) → (Mine.hd.heap_39 w.params).In h₀ → Top p loose mean mg mb h₀ → News h₀ L s.heap (own ++ fr) → Tl [] fr₁ fr → Off own [] →
    (∀ h' tk' own' fr' b' u', Tl [] fr₁ fr' → Fr h₀ L h' (kb b' u') → News h₀ L h' (own' ++ fr') → Off own' [] → R b' own' → Q .next { s with heap := h', toks := tk' }) →
    wpAny (model prog w) (AC 302 7 [envOfC "law" sc L fa cd]) (exec st (envOfC "law" sc L fa cd)) Q (fun _ _ => False) s
theorem BlkE.use {w : World} {blk : Stmt} {b : List (Str × Value)} {own : Led} {R : List (Str × Value) → Led → Prop} (c : BlkE w blk b own R) {blk' : Stmt} (hb : blk' = blk)
    {sc : Scope} {prog : Program} {Q : Flow → Shared → Prop} {s : Shared} {h₀ : Heap} {L fa : Addr} {cd : Value} {m mg mb : Str → Option Value} {p : Program} {loose : List Str} {mean : ExcName → Option Value} {fr₁ fr news : Led}
    (hs : sc = lawScope) (F : Fr h₀ L s.heap m) (hm : kbOk m b) (X : (Mine.hd.heap_39 w.params).In h₀) (T : Top p loose mean mg mb h₀) (N : News h₀ L s.heap news) (hc : Cut news own fr) (t : Tl [] fr₁ fr) (O : Off own [])
    (k : ∀ h' tk' own' fr' b' u', Tl [] fr₁ fr' → Fr h₀ L h' (kb b' u') → News h₀ L h' (own' ++ fr') → Off own' [] → R b' own' → Q .next { s with heap := h', toks := tk' }) :
    wpAny (model prog w) (AC 302 7 [envOfC "law" sc L fa cd]) (exec blk' (envOfC "law" sc L fa cd)) Q (fun _ _ => False) s := by
  subst hb
  unfold Cut at hc
  subst hc
  exact c hs (fr_binds F hm) X T N t O k
local macro_rules | `(tactic| walk_at "execs cons") => `(tactic| refine Hold.of ?_)
theorem chain_blk {w : World} {d : List Value} {own : Led} {P W NL : Addr} {TT x : Value} {pv : List Value} {k k' : Nat} {S D Ls T E Lt r q : Addr} {xs ys : List Value} {nr nq np : Nat} {n dd : Int} {t tn t1 t2 td : Tok} (hd : DIn d own P pv k k' S D Ls T E Lt r q xs ys nr nq np) (hx : x ∈ d) :
    BlkE w chainS (("deed", .int dd td) :: bIn P W NL TT x r q k n t tn t1 t2) own (DOut d own P W NL TT pv k t S D Ls r) := by
  intro sc prog Q s h₀ L fa cd mg mb u p loose mean fr₁ fr hs F X T N tl O kk
  have hs' := hs
  generalize hb : chainS = blk
  conv at hb => lhs; whnf
  conv at hs => rhs; whnf
  subst hb
  subst hs
  try dsimp only
  ktr_unf
  ·
    unfold Hold
    refine Blk.use (deed_add hd hx (W := W) (NL := NL) (TT := TT) (n := n) (t := t) (tn := tn) (t1 := t1) (t2 := t2)) (by rfl) hs' F (by exact ⟨rfl, rfl, rfl, rfl, rfl, rfl, rfl, rfl, rfl, rfl, rfl, trivial⟩) X T N Cut.base tl O fun h' tk' own' fr' b' u' T' F' N' O' R' => ?_
    clear F N tl O
    ktr_unf
    exact kk _ _ _ _ _ _ T' F' N' O' R'
  ·
    unfold Hold
    refine wpAny_execs_cons ?_
    ktr_unf
    ·
      unfold Hold
      refine Blk.use (deed_rem hd hx (W := W) (NL := NL) (TT := TT) (n := n) (t := t) (tn := tn) (t1 := t1) (t2 := t2)) (by rfl) hs' F (by exact ⟨rfl, rfl, rfl, rfl, rfl, rfl, rfl, rfl, rfl, rfl, rfl, trivial⟩) X T N Cut.base tl O fun h' tk' own' fr' b' u' T' F' N' O' R' => ?_
      clear F N tl O
      ktr_unf
      exact kk _ _ _ _ _ _ T' F' N' O' R'
    ·
      unfold Hold
      refine wpAny_execs_cons ?_
      ktr_unf
      ·
        unfold Hold
        refine Blk.use (deed_pop hd hx (W := W) (NL := NL) (TT := TT) (n := n) (t := t) (tn := tn) (t1 := t1) (t2 := t2)) (by rfl) hs' F (by exact ⟨rfl, rfl, rfl, rfl, rfl, rfl, rfl, rfl, rfl, rfl, rfl, trivial⟩) X T N Cut.base tl O fun h' tk' own' fr' b' u' T' F' N' O' R' => ?_
        clear F N tl O
        ktr_unf
        exact kk _ _ _ _ _ _ T' F' N' O' R'
      ·
        unfold Hold
        refine wpAny_execs_cons ?_
        ktr_unf
        ·
          unfold Hold
          refine Blk.use (deed_del hd hx (W := W) (NL := NL) (TT := TT) (n := n) (t := t) (tn := tn) (t1 := t1) (t2 := t2)) (by rfl) hs' F (by exact ⟨rfl, rfl, rfl, rfl, rfl, rfl, rfl, rfl, rfl, rfl, rfl, trivial⟩) X T N Cut.base tl O fun h' tk' own' fr' b' u' T' F' N' O' R' => ?_
          clear F N tl O
          ktr_unf
          exact kk _ _ _ _ _ _ T' F' N' O' R'
        ·
          unfold Hold
          refine wpAny_execs_cons ?_
          ktr_unf
          ·
            unfold Hold
            refine Blk.use (deed_or hd hx (W := W) (NL := NL) (TT := TT) (n := n) (t := t) (tn := tn) (t1 := t1) (t2 := t2)) (by rfl) hs' F (by exact ⟨rfl, rfl, rfl, rfl, rfl, rfl, rfl, rfl, rfl, rfl, rfl, trivial⟩) X T N Cut.base tl O fun h' tk' own' fr' b' u' T' F' N' O' R' => ?_
            clear F N tl O
            ktr_unf
            exact kk _ _ _ _ _ _ T' F' N' O' R'
          ·
            unfold Hold
            refine wpAny_execs_cons ?_
            ktr_unf
            ·
              unfold Hold
              refine Blk.use (deed_and hd hx (W := W) (NL := NL) (TT := TT) (n := n) (t := t) (tn := tn) (t1 := t1) (t2 := t2)) (by rfl) hs' F (by exact ⟨rfl, rfl, rfl, rfl, rfl, rfl, rfl, rfl, rfl, rfl, rfl, trivial⟩) X T N Cut.base tl O fun h' tk' own' fr' b' u' T' F' N' O' R' => ?_
              clear F N tl O
              ktr_unf
              exact kk _ _ _ _ _ _ T' F' N' O' R'
            ·
              unfold Hold
              refine wpAny_execs_cons ?_
              ktr_unf
              ·
                unfold Hold
                refine Blk.use (deed_sub hd hx (W := W) (NL := NL) (TT := TT) (n := n) (t := t) (tn := tn) (t1 := t1) (t2 := t2)) (by rfl) hs' F (by exact ⟨rfl, rfl, rfl, rfl, rfl, rfl, rfl, rfl, rfl, rfl, rfl, trivial⟩) X T N Cut.base tl O fun h' tk' own' fr' b' u' T' F' N' O' R' => ?_
                clear F N tl O
                ktr_unf
                exact kk _ _ _ _ _ _ T' F' N' O' R'
              ·
                unfold Hold
                refine Blk.use (deed_xor hd hx (W := W) (NL := NL) (TT := TT) (n := n) (t := t) (tn := tn) (t1 := t1) (t2 := t2)) (by rfl) hs' F (by exact ⟨rfl, rfl, rfl, rfl, rfl, rfl, rfl, rfl, rfl, rfl, rfl, trivial⟩) X T N Cut.base tl O fun h' tk' own' fr' b' u' T' F' N' O' R' => ?_
                clear F N tl O
                ktr_unf
                exact kk _ _ _ _ _ _ T' F' N' O' R'
end
local macro_rules | `(tactic| walk_at "none") => `(tactic| fail)
local macro_rules | `(tactic| walk_at "none") => `(tactic| fail)
section
example : True := by w_top off; trivial
theorem setAt_by {own own' : Led} {S D Ls : Addr} {xs : List Value} (h : SetAt own S D Ls xs) (h1 : ∀ o, (S, o) ∈ own → (S, o) ∈ own') (h2 : ∀ o, (D, o) ∈ own → (D, o) ∈ own') (h3 : ∀ o, (Ls, o) ∈ own → (Ls, o) ∈ own') : SetAt own' S D Ls xs := by
  obtain ⟨hS, ⟨a, b, hD⟩, ⟨n, hL⟩, t, m1, m2, m3⟩ := h
  exact ⟨h1 _ hS, ⟨a, b, h2 _ hD⟩, ⟨n, h3 _ hL⟩, t, m1, m2, m3⟩
abbrev bTurn (P W NL : Addr) (TT : Value) (i : Nat) (tk : Tok) : List (Str × Value) := [("pair", .ref P), ("rows", .ref W), ("numbers", .ref NL), ("things", TT), ("k", .int (2 + (i : Int)) tk)]
local macro_rules | `(tactic| walk_at "exec If") => `(tactic| refine Hold.of ?_)
theorem turn_blk {w : World} {d : List Value} {own : Led} {P W NL ta : Addr} {x : Value} {pv wv nums : List Value} {k k' i jt : Nat} {S D Ls T E Lt r q : Addr} {xs ys : List Value} {nr nq np nW nN : Nat} {n : Int} {tn tk : Tok}
    (hd : DIn d own P pv k k' S D Ls T E Lt r q xs ys nr nq np)
    (hk01 : (k = 0 ∧ k' = 1 ∧ pv = [.ref S, .ref T] ∧ wv = [.ref r, .ref q]) ∨ (k = 1 ∧ k' = 0 ∧ pv = [.ref T, .ref S] ∧ wv = [.ref q, .ref r]))
    (hta : ∀ h₀ : Heap, (Mine.hd.heap_39 w.params).In h₀ → h₀.IsTuple ta d.toArray) (hW : (W, listOf wv.toArray nW) ∈ own) (hNL : (NL, listOf nums.toArray nN) ∈ own) (hnl : nums.length ≤ 1000) (hni : 2 + i < nums.length) (hnv : nums.getD (2 + i) .none = .int n tn)
    (hkw : Int.fmod (Int.fdiv n 12) 2 = (k : Int)) (hjt : Int.fmod (Int.fdiv n 24 + (2 + (i : Int))) 8 = (jt : Int)) (hj8 : jt < d.length) (hx : d.getD jt .none = x)
    (nWs : S ≠ W ∧ D ≠ W ∧ Ls ≠ W ∧ T ≠ W ∧ E ≠ W ∧ Lt ≠ W ∧ r ≠ W ∧ q ≠ W ∧ P ≠ W) :
    Blk w loopBody (bTurn P W NL (.ref ta) i tk) own (fun b' own' => b' = bLaw P W NL (.ref ta) ∧ ∃ zs Ls' r' nr' np' nW' nq', SetAt own' S D Ls' zs ∧ SetAt own' T E Lt ys ∧ (r', listOf zs.toArray nr') ∈ own' ∧ (q, listOf ys.toArray nq') ∈ own' ∧ (P, listOf pv.toArray np') ∈ own' ∧ (W, listOf (wv.set k (.ref r')).toArray nW') ∈ own' ∧
      (∀ p ∈ own, p.1 ≠ D → p.1 ≠ Ls → p.1 ≠ P → p.1 ≠ W → p ∈ own') ∧ (Ls' = Ls ∨ New own Ls') ∧ (r' = r ∨ New own r') ∧ r' ≠ Ls' ∧ Good d zs) := by
  obtain ⟨dom, htc, hdl, s1, s2, hr, hq, hP, kl, kl', hpl, p1, p2, hkk, gx, gy, ⟨l1, l2, l3, l4, l5, l6⟩, ⟨d1, d2, d3, d4, d5, d6⟩, ⟨b1, b2, b3, b4, b5, b6, b7⟩⟩ := id hd
  have hxd : x ∈ d := hx ▸ getD_in hj8
  have hwk : wv.getD k .none = .ref r := by rcases hk01 with ⟨rfl, rfl, rfl, rfl⟩ | ⟨rfl, rfl, rfl, rfl⟩ <;> rfl
  have hwk' : wv.getD k' .none = .ref q := by rcases hk01 with ⟨rfl, rfl, rfl, rfl⟩ | ⟨rfl, rfl, rfl, rfl⟩ <;> rfl
  have hwl : k < wv.length := by rcases hk01 with ⟨rfl, rfl, rfl, rfl⟩ | ⟨rfl, rfl, rfl, rfl⟩ <;> simp
  have hwl' : k' < wv.length := by rcases hk01 with ⟨rfl, rfl, rfl, rfl⟩ | ⟨rfl, rfl, rfl, rfl⟩ <;> simp
  have hwz : wv.length ≤ 1000 := by rcases hk01 with ⟨rfl, rfl, rfl, rfl⟩ | ⟨rfl, rfl, rfl, rfl⟩ <;> simp
  have hidx : (2 : Int) + (i : Int) = ((2 + i : Nat) : Int) := by omega
  have hkw' : 1 - Int.fmod (Int.fdiv n 12) 2 = (k' : Int) := by rw [hkw]; exact hkk
  intro sc prog Q s h₀ L fa cd mg mb u p loose mean fr₁ fr hs F X Tp N tl O kk
  have hta' := hta h₀ X
  have hdz : d.length ≤ 1000 := by omega
  have hs' := hs
  generalize hb : loopBody = blk
  conv at hb => lhs; whnf
  conv at hs => rhs; whnf
  subst hb
  subst hs
  try dsimp only
  ktr_unf
  unfold Hold
  (rename Fr h₀ L _ _ => FA; rename News h₀ L _ _ => NA)
  have NB : News h₀ L _ (own ++ fr) := fun p hp => NA p (.tail _ (.tail _ hp))
  clear NA
  refine BlkE.use (chain_blk hd hxd (W := W) (NL := NL) (TT := .ref ta) (n := n) (t := _) (tn := _) (t1 := _) (t2 := _) (dd := _) (td := _)) (by rfl) hs' FA (by exact ⟨rfl, rfl, rfl, rfl, rfl, congrArg (fun z => some (Value.int z _)) hkw, rfl, rfl, rfl, rfl, rfl, rfl, trivial⟩) X Tp NB Cut.base tl O fun h1 tk1 own1 fr1 b1 u1 T1 F1 N1 O1 R1 => ?_
  clear FA NB
  dsimp only
  obtain ⟨w1, w2, w3, w4, w5, w6, w7, w8, w9⟩ := nWs
  obtain ⟨zs, Ls', r', nr', np', told, due, rfl, sA, hmA, hPA, kp1, orL, orR, hne, he, hTt, hTd, gz⟩ := R1
  have hW1 := kp1 _ hW (ne_flip w2) (ne_flip w3) (ne_flip w9)
  have sB : SetAt own1 T E Lt ys := setAt_by s2 (fun o h => kp1 _ h d1 l1 b3) (fun o h => kp1 _ h d2 l2 b4) (fun o h => kp1 _ h d3 l3 b5)
  have hq1 := kp1 _ hq d5 l5 b7
  have v3 : Ls' ≠ W := orL.elim (fun e => e ▸ w3) fun h e => h _ hW e.symm
  have v7 : r' ≠ W := orR.elim (fun e => e ▸ w7) fun h e => h _ hW e.symm
  refine Blk.use (tail2 hk01 sA sB hmA hq1 hPA hW1 ⟨w1, w2, v3, w4, w5, w6, v7, w8, w9⟩ (good_len dom gz hdl) (good_len dom gy hdl) hTt hTd he) (by rfl) hs' F1 (by exact ⟨rfl, rfl, rfl, rfl, rfl, rfl, rfl, rfl, trivial⟩) X Tp N1 Cut.base T1 O1 fun h2 tk2 own2 fr2 b2 u2 T2 F2 N2 O2 R2 => ?_
  obtain ⟨rfl, kp2, nW2, hW2⟩ := R2
  exact kk _ _ _ _ _ _ T2 F2 N2 O2 ⟨rfl, zs, Ls', r', _, _, _, _, setAt_by sA (fun o h => kp2 _ h w1) (fun o h => kp2 _ h w2) (fun o h => kp2 _ h v3), setAt_by sB (fun o h => kp2 _ h w4) (fun o h => kp2 _ h w5) (fun o h => kp2 _ h w6), kp2 _ hmA v7, kp2 _ hq1 w8, kp2 _ hPA w9, hW2, fun p hp a b c e => kp2 _ (kp1 p hp a b c) e, orL, orR, hne, gz⟩
end
local macro_rules | `(tactic| walk_at "none") => `(tactic| fail)
local macro_rules | `(tactic| walk_at "none") => `(tactic| fail)
section
example : True := by w_top off; trivial
/-- what statements of the law do, its frame at L -/
def BlkC (w : World) (L : Addr) (blk : List Stmt) (b : List (Str × Value)) (own : Led) (R : List (Str × Value) → Led → Prop) : Prop :=
  ∀ {sc : Scope} {prog : Program} {Q : Flow → Shared → Prop} {s : Shared} {h₀ : Heap} {fa : Addr} {cd : Value} {mg mb u : Str → Option Value} {p : Program} {loose : List Str} {mean : ExcName → Option Value} {fr₁ fr : Led},
    sc = lawScope → Fr h₀ L s.heap (kb b u) → (Mine.hd.heap_39 w.params).In h₀ → Top p loose mean mg mb h₀ → News h₀ L s.heap (own ++ fr) → Tl [] fr₁ fr → Off own [] →
    (∀ h' tk' own' fr' b' u', Tl [] fr₁ fr' → Fr h₀ L h' (kb b' u') → News h₀ L h' (own' ++ fr') → Off own' [] → R b' own' → Q .next { s with heap := h', toks := tk' }) →
    wpAny (model prog w) (AC 302 7 [envOfC "law" sc L fa cd]) (execs blk (envOfC "law" sc L fa cd)) Q (fun _ _ => False) s
theorem BlkC.use {w : World} {L : Addr} {blk : List Stmt} {b : List (Str × Value)} {own : Led} {R : List (Str × Value) → Led → Prop} (c : BlkC w L blk b own R) {blk' : List Stmt} (hb : blk' = blk)
    {sc : Scope} {prog : Program} {Q : Flow → Shared → Prop} {s : Shared} {h₀ : Heap} {fa : Addr} {cd : Value} {m mg mb : Str → Option Value} {p : Program} {loose : List Str} {mean : ExcName → Option Value} {fr₁ fr news : Led}
    (hs : sc = lawScope) (F : Fr h₀ L s.heap m) (hm : kbOk m b) (X : (Mine.hd.heap_39 w.params).In h₀) (T : Top p loose mean mg mb h₀) (N : News h₀ L s.heap news) (hc : Cut news own fr) (t : Tl [] fr₁ fr) (O : Off own [])
    (k : ∀ h' tk' own' fr' b' u', Tl [] fr₁ fr' → Fr h₀ L h' (kb b' u') → News h₀ L h' (own' ++ fr') → Off own' [] → R b' own' → Q .next { s with heap := h', toks := tk' }) :
    wpAny (model prog w) (AC 302 7 [envOfC "law" sc L fa cd]) (execs blk' (envOfC "law" sc L fa cd)) Q (fun _ _ => False) s := by
  subst hb
  unfold Cut at hc
  subst hc
  exact c hs (fr_binds F hm) X T N t O k
def BlkCE (w : World) (L : Addr) (st : Stmt) (b : List (Str × Value)) (own : Led) (R : List (Str × Value) → Led → Prop) : Prop :=
  ∀ {sc : Scope} {prog : Program} {Q : Flow → Shared → Prop} {s : Shared} {h₀ : Heap} {fa : Addr} {cd : Value} {mg mb u : Str → Option Value} {p : Program} {loose : List Str} {mean : ExcName → Option Value} {fr₁ fr : Led},
    sc = lawScope → Fr h₀ L s.heap (kb b u) → (Mine.hd.heap_39 w.params).In h₀ → Top p loose mean mg mb h₀ → News h₀ L s.heap (own ++ fr) → Tl [] fr₁ fr → Off own [] →
    (∀ h' tk' own' fr' b' u', Tl [] fr₁ fr' → Fr h₀ L h' (kb b' u') → News h₀ L h' (own' ++ fr') → Off own' [] → R b' own' → Q .next { s with heap := h', toks := tk' }) →
    wpAny (model prog w) (AC 302 7 [envOfC "law" sc L fa cd]) (exec st (envOfC "law" sc L fa cd)) Q (fun _ _ => False) s
theorem BlkCE.use {w : World} {L : Addr} {blk : Stmt} {b : List (Str × Value)} {own : Led} {R : List (Str × Value) → Led → Prop} (c : BlkCE w L blk b own R) {blk' : Stmt} (hb : blk' = blk)
    {sc : Scope} {prog : Program} {Q : Flow → Shared → Prop} {s : Shared} {h₀ : Heap} {fa : Addr} {cd : Value} {m mg mb : Str → Option Value} {p : Program} {loose : List Str} {mean : ExcName → Option Value} {fr₁ fr news : Led}
    (hs : sc = lawScope) (F : Fr h₀ L s.heap m) (hm : kbOk m b) (X : (Mine.hd.heap_39 w.params).In h₀) (T : Top p loose mean mg mb h₀) (N : News h₀ L s.heap news) (hc : Cut news own fr) (t : Tl [] fr₁ fr) (O : Off own [])
    (k : ∀ h' tk' own' fr' b' u', Tl [] fr₁ fr' → Fr h₀ L h' (kb b' u') → News h₀ L h' (own' ++ fr') → Off own' [] → R b' own' → Q .next { s with heap := h', toks := tk' }) :
    wpAny (model prog w) (AC 302 7 [envOfC "law" sc L fa cd]) (exec blk' (envOfC "law" sc L fa cd)) Q (fun _ _ => False) s := by
  subst hb
  unfold Cut at hc
  subst hc
  exact c hs (fr_binds F hm) X T N t O k
def lawSt (i : Nat) : Stmt := match lawBody.drop i with | s :: _ => s | [] => default
/-- what holds ahead of a question -/
structure QIn (d : List Value) (own : Led) (L S D Ls T E Lt r q lL lM sm : Addr) (xs ys : List Value) (z1 z2 : Value) (nr nq nl nm ns : Nat) (o1 oa : Obj) : Prop where
  dom : Dom d
  tc : ∀ y ∈ d, Tc y
  dl : d.length ≤ 8
  s1 : SetAt own S D Ls xs
  s2 : SetAt own T E Lt ys
  hr : (r, listOf xs.toArray nr) ∈ own
  hq : (q, listOf ys.toArray nq) ∈ own
  hl : (lL, listOf (only xs ys false).toArray nl) ∈ own
  hm : (lM, listOf (only ys xs false).toArray nm) ∈ own
  hs : (sm, listOf [z1, z2].toArray ns) ∈ own
  gx : Good d xs
  gy : Good d ys
  z1d : z1 ∈ d
  z2d : z2 ∈ d
  c1 : (L + 1 + 1, o1) ∈ own
  e1 : o1.data = .cell (some (.ref S))
  ca : (L + 1 + 1 + 1, oa) ∈ own
  ea : oa.data = .cell (some (.ref r))
abbrev bQ (T q lL lM sm NL : Addr) (TT : Value) (qn : Int) (tq : Tok) : List (Str × Value) := [("two", .ref T), ("b", .ref q), ("less", .ref lL), ("more", .ref lM), ("some", .ref sm), ("numbers", .ref NL), ("things", TT), ("question", .int qn tq)]
abbrev bE (T q lL lM sm NL : Addr) (TT : Value) (qn : Int) (tq : Tok) (a b : Addr) : List (Str × Value) := [("two", .ref T), ("b", .ref q), ("less", .ref lL), ("more", .ref lM), ("some", .ref sm), ("numbers", .ref NL), ("things", TT), ("question", .int qn tq), ("told", .ref a), ("due", .ref b)]
end
section
example : True := by w_top off; trivial
theorem oths2 {own : Led} {v0 v1 : Value} {e0 e1 : Value → Bool} {z0 z1 : List Value} (o0 : Oth own v0 e0 z0) (o1 : Oth own v1 e1 z1) : ∀ (i : Nat) (v : Value), [v0, v1][i]? = some v → ∃ e zs, [e0, e1][i]? = some e ∧ [z0, z1][i]? = some zs ∧ Oth own v e zs := fun i v h => by
  rcases i with _ | _ | i
  · cases h; exact ⟨_, _, rfl, rfl, o0⟩
  · cases h; exact ⟨_, _, rfl, rfl, o1⟩
  · cases h
theorem c_un2 {w : World} {own : Led} {S D Ls : Addr} {xs z0 z1 : List Value} {v0 v1 : Value} {e0 e1 : Value → Bool} (h : SetAt own S D Ls xs) (o0 : Oth own v0 e0 z0) (o1 : Oth own v1 e1 z1) (hz : xs.length ≤ 100) (h0 : z0.length ≤ 100) (h1 : z1.length ≤ 100) (ha : (add xs z0).length ≤ 100) (ht0 : ∀ y ∈ add xs z0, Th y) (ht1 : ∀ y ∈ add (add xs z0) z1, Th y) :
    Con w 261 360 600 [.ref S, v0, v1] own (fun v own' => NewSet own own' v (add (add xs z0) z1)) := by
  refine c_union2 (zss := [z0, z1]) h (fun i v q => ?_) (fun i zs q => ?_) (by omega) (fun i => ?_)
  · obtain ⟨e, zs, _, a, b⟩ := oths2 o0 o1 i v q
    exact ⟨e, zs, a, b⟩
  · rcases i with _ | _ | i
    · cases q; show xs.length + z0.length ≤ 1000; omega
    · cases q; show (add xs z0).length + z1.length ≤ 1000; omega
    · cases q
  · rcases i with _ | _ | i
    · exact h.th
    · exact ht0
    · intro y hy
      have e : ([z0, z1] : List (List Value)).take (i + 1 + 1) = [z0, z1] := List.take_of_length_le (by simp)
      rw [e] at hy
      exact ht1 y hy
theorem c_in2 {w : World} {own : Led} {S D Ls : Addr} {xs z0 z1 : List Value} {v0 v1 : Value} {e0 e1 : Value → Bool} (h : SetAt own S D Ls xs) (o0 : Oth own v0 e0 z0) (o1 : Oth own v1 e1 z1) (hz : xs.length ≤ 1000) :
    Con w 268 360 600 [.ref S, v0, v1] own (fun v own' => NewSet own own' v (mk ((mk (xs.filter e0)).filter e1))) :=
  c_intersection2 (es := [e0, e1]) h (fun i v q => by obtain ⟨e, zs, a, _, b⟩ := oths2 o0 o1 i v q; exact ⟨e, zs, a, b⟩) hz
theorem c_di2 {w : World} {own : Led} {S D Ls : Addr} {xs z0 z1 : List Value} {v0 v1 : Value} {e0 e1 : Value → Bool} (h : SetAt own S D Ls xs) (o0 : Oth own v0 e0 z0) (o1 : Oth own v1 e1 z1) (hz : xs.length ≤ 1000) :
    Con w 275 360 600 [.ref S, v0, v1] own (fun v own' => NewSet own own' v (mk ((mk (xs.filter fun x => !e0 x)).filter fun x => !e1 x))) :=
  c_difference2 (es := [e0, e1]) h (fun i v q => by obtain ⟨e, zs, a, _, b⟩ := oths2 o0 o1 i v q; exact ⟨e, zs, a, b⟩) hz
theorem Oth.upQ {own own' : Led} {v : Value} {e : Value → Bool} {zs : List Value} (h : Oth own v e zs) (k : Kq own own') : Oth own' v e zs := by
  cases h with
  | set a b => exact .set (a.toQ k) b
  | lst a b c => exact .lst (k _ a) b c
section
variable {prog : Program} {w : World} {A : Around} {E Q : Value → Shared → Prop} {s : Shared} {h₀ : Heap} {L S D T D2 f l : Addr} {m : Str → Option Value} {news : Led} {es es2 : List DictEntry} {k1 k2 n : Nat} {op : CmpOp} {ys : List Value}
theorem cmp_sets {o1 o2 : Led} {a1 a2 b1 b2 : Addr} {x1 x2 : List Value} (_ : SetAt o1 S a1 a2 x1) (_ : SetAt o2 T b1 b2 x2) (F : Fr h₀ L s.heap m) (X : (Mine.hd.heap_39 w.params).In h₀) (N : News h₀ L s.heap news) (h1 : (S, instObj 306 D) ∈ news) (h2 : (D, dictOf es k1) ∈ news) (h3 : (T, instObj 306 D2) ∈ news) (h4 : (D2, dictOf es2 k2) ∈ news) (hu : A.units < cLine)
    (hn : notFirst (Mine.hd.heap_39 w.params) 306 (.ref 306) = true) (hs : findIn (Mine.hd.heap_39 w.params) (.ref 306) (cmpInfo op).2.1 = some (some (.ref f))) (hf : isFn (Mine.hd.heap_39 w.params) (.ref f) = true)
    (h : wpAny (model prog w) A (call (.ref f) [.ref S, .ref T]) (PySem.W.CmpBack Q) E s) : wpAny (model prog w) A (richCompare op (.ref S) (.ref T)) Q E s :=
  PySem.W.cmp_K (C := 306) hu F X (InstAt.of_news N h1 h2) (InstAt.of_news N h3 h4).type hn hs hf h
end
theorem eqv_bool {own : Led} {b c : Bool} (h : b = c) : Eqv own (.bool b) (.bool c) := h ▸ .same _
theorem eqL_nil (zs : List Value) : eqL zs [] = zs.isEmpty := by cases zs <;> rfl
theorem Eqv.rowE {own : Led} {a b : Addr} {xs ys : List Value} {n m : Nat} (ha : (a, listOf xs.toArray n) ∈ own) (hb : (b, listOf ys.toArray m) ∈ own) (e : xs = ys) (hy : ∀ y ∈ ys, Th y) : Eqv own (.ref a) (.ref b) := by
  subst e
  exact Eqv.row ha hb hy
section
variable {prog : Program} {w : World} {A : Around} {s : Shared} {h₀ : Heap} {L : Addr} {m : Str → Option Value} {env : Env} {elt : Expr} {x : Str} {scope : Scope} {cl : List (Str × Addr)} {S : Led → Prop} {P : Nat → Value → Prop} {Fin : List Value → Led → Prop}
/-- a comprehension without a test, by an invariant -/
theorem comp_restU {n : Nat} {news : Led} (Z : Nat → List Value → Led → Prop) (h0 : Z 0 [] news) (fin : ∀ ys nw, Z n ys nw → Fin ys nw)
    (turn : ∀ i ys nw, i < n → Z i ys nw → ∀ v I oI C oC D m₂ h tk (E' : Value → Shared → Prop), P i v → LCg.NsObj oC m₂ → m₂ x = some v → Fr h₀ L h m → News h₀ L h ((I, oI) :: (C, oC) :: (D, LCg.lst ys) :: nw) → LCg.Off3 I C D nw → ((@Ne Nat I C) ∧ (@Ne Nat I D) ∧ (@Ne Nat C D)) →
      wpAny (model prog w) A (eval elt (compEnvC scope cl C env)) (LCg.CompEnd h₀ L m { s with heap := h, toks := tk } I oI C oC D (LCg.lst ys) S (fun y nw' => Z (i + 1) (ys ++ [y]) nw')) E' { s with heap := h, toks := tk }) :
    LCg.CompRest prog w A h₀ L m env elt x scope cl s S P Fin n 0 [] news := by
  have key : ∀ k i ys nw, i + k = n → Z i ys nw → LCg.CompRest prog w A h₀ L m env elt x scope cl s S P Fin k i ys nw := by
    intro k
    induction k with
    | zero =>
      intro i ys nw hi hz
      obtain rfl : i = n := hi
      exact LCg.CompRest.zero (fin _ _ hz)
    | succ k ih =>
      intro i ys nw hi hz
      refine LCg.CompRest.succ fun v I oI C oC D m₂ h tk E' a b c d e f g => ?_
      exact wpAny_mono (turn i ys nw (by omega) hz v I oI C oC D m₂ h tk E' a b c d e f g) (fun y s'' h'' => compEnd_mono h'' fun nw' hz' => ih (i + 1) _ nw' (by omega) hz') fun _ _ q => q
  exact key n 0 [] news (Nat.zero_add _) h0
end
abbrev b4 (T q NL : Addr) (TT : Value) : List (Str × Value) := [("two", .ref T), ("b", .ref q), ("numbers", .ref NL), ("things", TT)]
abbrev b5 (T q NL : Addr) (TT : Value) (lL lM : Addr) : List (Str × Value) := [("two", .ref T), ("b", .ref q), ("numbers", .ref NL), ("things", TT), ("less", .ref lL), ("more", .ref lM)]
theorem off_nil {own : Led} : Off own [] := fun _ _ h => by cases h
abbrev b1 (NL : Addr) (TT : Value) : List (Str × Value) := [("numbers", .ref NL), ("things", TT)]
end
local macro_rules | `(tactic| kst_mem) => `(tactic| (with_reducible refine List.mem_append_left _ ?_; kst_mem))
local macro_rules | `(tactic| kst_mem) => `(tactic| (refine Kp.mem (by with_reducible assumption) ?_ ?_; kst_mem; acc_open))
local macro_rules | `(tactic| kst_mem) => `(tactic| (refine Kq.mem (by with_reducible assumption) ?_; kst_mem))
local macro_rules | `(tactic| kst_mem) => `(tactic| (with_reducible refine List.mem_cons_of_mem _ ?_; kst_mem))
local macro_rules | `(tactic| kst_mem) => `(tactic| (with_reducible exact List.mem_cons_self))
local macro_rules | `(tactic| kst_mem) => `(tactic| (with_reducible assumption))
local macro_rules | `(tactic| acc_peel) => `(tactic| first | with_reducible assumption | exact SetAt.mk (by kst_mem) ⟨_, _, by kst_mem⟩ ⟨_, by kst_mem⟩ (by with_reducible assumption) (by acc_open) (by acc_open) (by acc_open))
local macro_rules | `(tactic| walk_at "call ref") => `(tactic| (k_here; (with_reducible show wpAny _ _ (call (Value.ref 93) [_, Value.ref _]) _ _ _); k_dflt ((refine' Con.use ?c ?hA ?hf ?hk ?F ?X ?T ?N ?hc ?t ?O (fun v9 h9 tk9 own9 fr9 T9 F9 N9 O9 R9 => ?_)); (case N => k_asm); (case hc => acc_binds); (case c => exact c_le (by acc_peel) (by acc_peel) (by omega) (by omega)); (case hA => acc_state); (case hf => rfl); (case hk => rfl); (case F => k_asm); (case X => k_asm); (case T => k_asm); (case t => with_reducible assumption); (case O => acc_keepN); (obtain ⟨kq9, e8⟩ := R9; subst e8))))
local macro_rules | `(tactic| walk_at "call ref") => `(tactic| (k_here; (with_reducible show wpAny _ _ (call (Value.ref 100) [_, Value.ref _]) _ _ _); k_dflt ((refine' Con.use ?c ?hA ?hf ?hk ?F ?X ?T ?N ?hc ?t ?O (fun v9 h9 tk9 own9 fr9 T9 F9 N9 O9 R9 => ?_)); (case N => k_asm); (case hc => acc_binds); (case c => exact c_lt (by acc_peel) (by acc_peel) (by omega) (by omega)); (case hA => acc_state); (case hf => rfl); (case hk => rfl); (case F => k_asm); (case X => k_asm); (case T => k_asm); (case t => with_reducible assumption); (case O => acc_keepN); (obtain ⟨kq9, e8⟩ := R9; subst e8))))
local macro_rules | `(tactic| walk_at "call ref") => `(tactic| (k_here; (with_reducible show wpAny _ _ (call (Value.ref 107) [_, Value.ref _]) _ _ _); k_dflt ((refine' Con.use ?c ?hA ?hf ?hk ?F ?X ?T ?N ?hc ?t ?O (fun v9 h9 tk9 own9 fr9 T9 F9 N9 O9 R9 => ?_)); (case N => k_asm); (case hc => acc_binds); (case c => exact c_ge (by acc_peel) (by acc_peel) (by omega) (by omega)); (case hA => acc_state); (case hf => rfl); (case hk => rfl); (case F => k_asm); (case X => k_asm); (case T => k_asm); (case t => with_reducible assumption); (case O => acc_keepN); (obtain ⟨kq9, e8⟩ := R9; subst e8))))
local macro_rules | `(tactic| walk_at "call ref") => `(tactic| (k_here; (with_reducible show wpAny _ _ (call (Value.ref 114) [_, Value.ref _]) _ _ _); k_dflt ((refine' Con.use ?c ?hA ?hf ?hk ?F ?X ?T ?N ?hc ?t ?O (fun v9 h9 tk9 own9 fr9 T9 F9 N9 O9 R9 => ?_)); (case N => k_asm); (case hc => acc_binds); (case c => exact c_gt (by acc_peel) (by acc_peel) (by omega) (by omega)); (case hA => acc_state); (case hf => rfl); (case hk => rfl); (case F => k_asm); (case X => k_asm); (case T => k_asm); (case t => with_reducible assumption); (case O => acc_keepN); (obtain ⟨kq9, e8⟩ := R9; subst e8))))
local macro_rules | `(tactic| walk_at "call ref") => `(tactic| (k_here; (with_reducible show wpAny _ _ (call (Value.ref 79) [_, Value.ref _]) _ _ _); k_dflt ((refine' Con.use ?c ?hA ?hf ?hk ?F ?X ?T ?N ?hc ?t ?O (fun v9 h9 tk9 own9 fr9 T9 F9 N9 O9 R9 => ?_)); (case N => k_asm); (case hc => acc_binds); (case c => exact c_eq (by acc_peel) (by acc_peel) (by omega) (by omega)); (case hA => acc_state); (case hf => rfl); (case hk => rfl); (case F => k_asm); (case X => k_asm); (case T => k_asm); (case t => with_reducible assumption); (case O => acc_keepN); (obtain ⟨kq9, e8⟩ := R9; subst e8))))
local macro_rules | `(tactic| walk_at "call ref") => `(tactic| (k_here; (with_reducible show wpAny _ _ (call (Value.ref 86) [_, Value.ref _]) _ _ _); k_dflt ((refine' Con.use ?c ?hA ?hf ?hk ?F ?X ?T ?N ?hc ?t ?O (fun v9 h9 tk9 own9 fr9 T9 F9 N9 O9 R9 => ?_)); (case N => k_asm); (case hc => acc_binds); (case c => exact c_ne (by acc_peel) (by acc_peel) (by omega) (by omega)); (case hA => acc_state); (case hf => rfl); (case hk => rfl); (case F => k_asm); (case X => k_asm); (case T => k_asm); (case t => with_reducible assumption); (case O => acc_keepN); (obtain ⟨kq9, e8⟩ := R9; subst e8))))
local macro_rules | `(tactic| walk_at "call ref") => `(tactic| (k_here; (with_reducible show wpAny _ _ (call (Value.ref 226) [_, Value.ref _]) _ _ _); k_dflt ((refine' Con.use ?c ?hA ?hf ?hk ?F ?X ?T ?N ?hc ?t ?O (fun v9 h9 tk9 own9 fr9 T9 F9 N9 O9 R9 => ?_)); (case N => k_asm); (case hc => acc_binds); (case c => exact c_isdisjoint (by acc_peel) (by acc_peel) (by omega) (by omega)); (case hA => acc_state); (case hf => rfl); (case hk => rfl); (case F => k_asm); (case X => k_asm); (case T => k_asm); (case t => with_reducible assumption); (case O => acc_keepN); (obtain ⟨kq9, e8⟩ := R9; subst e8))))
local macro_rules | `(tactic| walk_at "call ref") => `(tactic| (k_here; (with_reducible show wpAny _ _ (call (Value.ref 233) [_, Value.ref _]) _ _ _); k_dflt ((refine' Con.use ?c ?hA ?hf ?hk ?F ?X ?T ?N ?hc ?t ?O (fun v9 h9 tk9 own9 fr9 T9 F9 N9 O9 R9 => ?_)); (case N => k_asm); (case hc => acc_binds); (case c => exact c_issubset (by acc_peel) (by acc_peel) (by omega) (by omega)); (case hA => acc_state); (case hf => rfl); (case hk => rfl); (case F => k_asm); (case X => k_asm); (case T => k_asm); (case t => with_reducible assumption); (case O => acc_keepN); (obtain ⟨kq9, e8⟩ := R9; subst e8))))
local macro_rules | `(tactic| walk_at "call ref") => `(tactic| (k_here; (with_reducible show wpAny _ _ (call (Value.ref 240) [_, Value.ref _]) _ _ _); k_dflt ((refine' Con.use ?c ?hA ?hf ?hk ?F ?X ?T ?N ?hc ?t ?O (fun v9 h9 tk9 own9 fr9 T9 F9 N9 O9 R9 => ?_)); (case N => k_asm); (case hc => acc_binds); (case c => exact c_issuperset (by acc_peel) (by acc_peel) (by omega) (by omega)); (case hA => acc_state); (case hf => rfl); (case hk => rfl); (case F => k_asm); (case X => k_asm); (case T => k_asm); (case t => with_reducible assumption); (case O => acc_keepN); (obtain ⟨kq9, e8⟩ := R9; subst e8))))
local macro_rules | `(tactic| walk_at "call ref") => `(tactic| (k_here; (with_reducible show wpAny _ _ (call (Value.ref 135) [_, Value.ref _]) _ _ _); k_dflt ((refine' Con.use ?c ?hA ?hf ?hk ?F ?X ?T ?N ?hc ?t ?O (fun v9 h9 tk9 own9 fr9 T9 F9 N9 O9 R9 => ?_)); (case N => k_asm); (case hc => acc_binds); (case c => exact c_or (by acc_peel) (by acc_peel) (by omega) (by omega)); (case hA => acc_state); (case hf => rfl); (case hk => rfl); (case F => k_asm); (case X => k_asm); (case T => k_asm); (case t => with_reducible assumption); (case O => acc_keepN); (obtain ⟨⟨S9, D9, L9, e9, s9, kq9, nS9, nD9, nL9⟩⟩ := R9; subst e9))))
local macro_rules | `(tactic| walk_at "call ref") => `(tactic| (k_here; (with_reducible show wpAny _ _ (call (Value.ref 121) [_, Value.ref _]) _ _ _); k_dflt ((refine' Con.use ?c ?hA ?hf ?hk ?F ?X ?T ?N ?hc ?t ?O (fun v9 h9 tk9 own9 fr9 T9 F9 N9 O9 R9 => ?_)); (case N => k_asm); (case hc => acc_binds); (case c => exact c_and (by acc_peel) (by acc_peel) (by omega) (by omega)); (case hA => acc_state); (case hf => rfl); (case hk => rfl); (case F => k_asm); (case X => k_asm); (case T => k_asm); (case t => with_reducible assumption); (case O => acc_keepN); (obtain ⟨⟨S9, D9, L9, e9, s9, kq9, nS9, nD9, nL9⟩⟩ := R9; subst e9))))
local macro_rules | `(tactic| walk_at "call ref") => `(tactic| (k_here; (with_reducible show wpAny _ _ (call (Value.ref 149) [_, Value.ref _]) _ _ _); k_dflt ((refine' Con.use ?c ?hA ?hf ?hk ?F ?X ?T ?N ?hc ?t ?O (fun v9 h9 tk9 own9 fr9 T9 F9 N9 O9 R9 => ?_)); (case N => k_asm); (case hc => acc_binds); (case c => exact c_sub (by acc_peel) (by acc_peel) (by omega) (by omega)); (case hA => acc_state); (case hf => rfl); (case hk => rfl); (case F => k_asm); (case X => k_asm); (case T => k_asm); (case t => with_reducible assumption); (case O => acc_keepN); (obtain ⟨⟨S9, D9, L9, e9, s9, kq9, nS9, nD9, nL9⟩⟩ := R9; subst e9))))
local macro_rules | `(tactic| walk_at "call ref") => `(tactic| (k_here; (with_reducible show wpAny _ _ (call (Value.ref 170) [_, Value.ref _]) _ _ _); k_dflt ((refine' Con.use ?c ?hA ?hf ?hk ?F ?X ?T ?N ?hc ?t ?O (fun v9 h9 tk9 own9 fr9 T9 F9 N9 O9 R9 => ?_)); (case N => k_asm); (case hc => acc_binds); (case c => exact c_xor (by acc_peel) (by acc_peel) (by omega) (by omega)); (case hA => acc_state); (case hf => rfl); (case hk => rfl); (case F => k_asm); (case X => k_asm); (case T => k_asm); (case t => with_reducible assumption); (case O => acc_keepN); (obtain ⟨⟨S9, D9, L9, e9, s9, kq9, nS9, nD9, nL9⟩⟩ := R9; subst e9))))
local macro_rules | `(tactic| walk_at "call ref") => `(tactic| (k_here; (with_reducible show wpAny _ _ (call (Value.ref 282) [_, Value.ref _]) _ _ _); k_dflt ((refine' Con.use ?c ?hA ?hf ?hk ?F ?X ?T ?N ?hc ?t ?O (fun v9 h9 tk9 own9 fr9 T9 F9 N9 O9 R9 => ?_)); (case N => k_asm); (case hc => acc_binds); (case c => exact c_sym (by acc_peel) (by acc_peel) (by omega) (by omega)); (case hA => acc_state); (case hf => rfl); (case hk => rfl); (case F => k_asm); (case X => k_asm); (case T => k_asm); (case t => with_reducible assumption); (case O => acc_keepN); (obtain ⟨⟨S9, D9, L9, e9, s9, kq9, nS9, nD9, nL9⟩⟩ := R9; subst e9))))
local macro_rules | `(tactic| walk_at "call ref") => `(tactic| (k_here; (with_reducible show wpAny _ _ (call (Value.ref 205) [_, Value.ref _]) _ _ _); k_dflt ((refine' Con.use ?c ?hA ?hf ?hk ?F ?X ?T ?N ?hc ?t ?O (fun v9 h9 tk9 own9 fr9 T9 F9 N9 O9 R9 => ?_)); (case N => k_asm); (case hc => acc_binds); (case c => exact c_update (by with_reducible assumption) (Oth.lst (by with_reducible assumption) (by with_reducible assumption) (by with_reducible assumption)) (Kq.kp (by with_reducible assumption)) (by with_reducible assumption) (by omega)); (case hA => acc_state); (case hf => rfl); (case hk => rfl); (case F => k_asm); (case X => k_asm); (case T => k_asm); (case t => with_reducible assumption); (case O => acc_keepN); (obtain ⟨e9, kp9, n9, hm9⟩ := R9; subst e9))))
local macro_rules | `(tactic| walk_at "call ref") => `(tactic| (k_here; (with_reducible show wpAny _ _ (call (Value.ref 51) _) _ _ _); k_dflt ((refine' Con.use ?c ?hA ?hf ?hk ?F ?X ?T ?N ?hc ?t ?O (fun v9 h9 tk9 own9 fr9 T9 F9 N9 O9 R9 => ?_)); (case N => k_asm); (case hc => acc_binds); (case c => exact c_getitem (by acc_peel) (by omega) (by exact rfl) (by with_reducible assumption)); (case hA => acc_state); (case hf => rfl); (case hk => rfl); (case F => k_asm); (case X => k_asm); (case T => k_asm); (case t => with_reducible assumption); (case O => acc_keepN); (obtain ⟨e9, e8⟩ := R9; subst e9; subst e8))))
local macro_rules | `(tactic| walk_at "call ref") => `(tactic| (k_here; (with_reducible show wpAny _ _ (call (Value.ref 219) _) _ _ _); k_dflt ((refine' Con.use ?c ?hA ?hf ?hk ?F ?X ?T ?N ?hc ?t ?O (fun v9 h9 tk9 own9 fr9 T9 F9 N9 O9 R9 => ?_)); (case N => k_asm); (case hc => acc_binds); (case c => exact c_copy (by acc_peel) (by omega)); (case hA => acc_state); (case hf => rfl); (case hk => rfl); (case F => k_asm); (case X => k_asm); (case T => k_asm); (case t => with_reducible assumption); (case O => acc_keepN); (obtain ⟨⟨S9, D9, L9, e9, s9, kq9, nS9, nD9, nL9⟩⟩ := R9; subst e9))))
local macro_rules | `(tactic| walk_at "call ref") => `(tactic| (k_here; (with_reducible show wpAny _ _ (call (Value.ref 268) [_, _, _]) _ _ _); k_dflt ((refine' Con.use ?c ?hA ?hf ?hk ?F ?X ?T ?N ?hc ?t ?O (fun v9 h9 tk9 own9 fr9 T9 F9 N9 O9 R9 => ?_)); (case N => k_asm); (case hc => acc_binds); (case c => exact c_in2 (by acc_peel) (by first | exact Oth.set (by acc_peel) (by omega) | exact Oth.lst (by kst_mem) (by with_reducible assumption) (by first | assumption | omega | (simp only [List.length_cons, List.length_nil]; omega))) (by first | exact Oth.set (by acc_peel) (by omega) | exact Oth.lst (by kst_mem) (by with_reducible assumption) (by first | assumption | omega | (simp only [List.length_cons, List.length_nil]; omega))) (by omega)); (case hA => acc_state); (case hf => rfl); (case hk => rfl); (case F => k_asm); (case X => k_asm); (case T => k_asm); (case t => with_reducible assumption); (case O => acc_keepN); (obtain ⟨⟨S9, D9, L9, e9, s9, kq9, nS9, nD9, nL9⟩⟩ := R9; subst e9))))
local macro_rules | `(tactic| walk_at "call ref") => `(tactic| (k_here; (with_reducible show wpAny _ _ (call (Value.ref 275) [_, _, _]) _ _ _); k_dflt ((refine' Con.use ?c ?hA ?hf ?hk ?F ?X ?T ?N ?hc ?t ?O (fun v9 h9 tk9 own9 fr9 T9 F9 N9 O9 R9 => ?_)); (case N => k_asm); (case hc => acc_binds); (case c => exact c_di2 (by acc_peel) (by first | exact Oth.set (by acc_peel) (by omega) | exact Oth.lst (by kst_mem) (by with_reducible assumption) (by first | assumption | omega | (simp only [List.length_cons, List.length_nil]; omega))) (by first | exact Oth.set (by acc_peel) (by omega) | exact Oth.lst (by kst_mem) (by with_reducible assumption) (by first | assumption | omega | (simp only [List.length_cons, List.length_nil]; omega))) (by omega)); (case hA => acc_state); (case hf => rfl); (case hk => rfl); (case F => k_asm); (case X => k_asm); (case T => k_asm); (case t => with_reducible assumption); (case O => acc_keepN); (obtain ⟨⟨S9, D9, L9, e9, s9, kq9, nS9, nD9, nL9⟩⟩ := R9; subst e9))))
local macro_rules | `(tactic| walk_at "call ref") => `(tactic| (k_here; (with_reducible show wpAny _ _ (call (Value.ref 261) [_, _, _]) _ _ _); k_dflt ((refine' Con.use ?c ?hA ?hf ?hk ?F ?X ?T ?N ?hc ?t ?O (fun v9 h9 tk9 own9 fr9 T9 F9 N9 O9 R9 => ?_)); (case N => k_asm); (case hc => acc_binds); (case c => exact c_un2 (by acc_peel) (by first | exact Oth.set (by acc_peel) (by omega) | exact Oth.lst (by kst_mem) (by with_reducible assumption) (by first | assumption | omega | (simp only [List.length_cons, List.length_nil]; omega))) (by first | exact Oth.set (by acc_peel) (by omega) | exact Oth.lst (by kst_mem) (by with_reducible assumption) (by first | assumption | omega | (simp only [List.length_cons, List.length_nil]; omega))) (by omega) (by omega) (by simp only [List.length_cons, List.length_nil]; omega) (by with_reducible assumption) (by with_reducible assumption) (by with_reducible assumption)); (case hA => acc_state); (case hf => rfl); (case hk => rfl); (case F => k_asm); (case X => k_asm); (case T => k_asm); (case t => with_reducible assumption); (case O => acc_keepN); (obtain ⟨⟨S9, D9, L9, e9, s9, kq9, nS9, nD9, nL9⟩⟩ := R9; subst e9))))
local macro_rules | `(tactic| walk_at "compareOp Eq ref ref") => `(tactic| (k_here; (with_reducible show wpAny _ _ (compareOp _ (Value.ref _) (Value.ref _)) _ _ _); k_dflt ((refine' eq_led ?N ?c ?a ?b ?x ?y ?u ?_); (case N => k_asm); (case c => acc_binds); (case a => kst_mem); (case b => kst_mem); (case x => with_reducible assumption); (case y => with_reducible assumption); (case u => exact Nat.le_of_ble_eq_true rfl))))
local macro_rules | `(tactic| walk_at "compareOp NotEq ref ref") => `(tactic| (k_here; (with_reducible show wpAny _ _ (compareOp _ (Value.ref _) (Value.ref _)) _ _ _); k_dflt ((refine' ne_led ?N ?c ?a ?b ?x ?y ?u ?_); (case N => k_asm); (case c => acc_binds); (case a => kst_mem); (case b => kst_mem); (case x => with_reducible assumption); (case y => with_reducible assumption); (case u => exact Nat.le_of_ble_eq_true rfl))))
local macro_rules | `(tactic| walk_at "compareOp LtE ref ref") => `(tactic| (k_here; (with_reducible show wpAny _ _ (compareOp _ (Value.ref _) (Value.ref _)) _ _ _); k_dflt ((refine cmp_ofLtE ?_); (refine' cmp_sets (f := 93) ?g1 ?g2 ?F ?X ?N ?h1 ?h2 ?h3 ?h4 ?u ?n ?s ?f ?_); (case g1 => with_reducible assumption); (case g2 => with_reducible assumption); (case F => k_asm); (case X => k_asm); (case N => k_asm); (case h1 => kst_mem); (case h2 => kst_mem); (case h3 => kst_mem); (case h4 => kst_mem); (case u => exact Nat.le_of_ble_eq_true rfl); (case n => k_is); (case s => k_is); (case f => k_is))))
local macro_rules | `(tactic| walk_at "compareOp Lt ref ref") => `(tactic| (k_here; (with_reducible show wpAny _ _ (compareOp _ (Value.ref _) (Value.ref _)) _ _ _); k_dflt ((refine cmp_ofLt ?_); (refine' cmp_sets (f := 100) ?g1 ?g2 ?F ?X ?N ?h1 ?h2 ?h3 ?h4 ?u ?n ?s ?f ?_); (case g1 => with_reducible assumption); (case g2 => with_reducible assumption); (case F => k_asm); (case X => k_asm); (case N => k_asm); (case h1 => kst_mem); (case h2 => kst_mem); (case h3 => kst_mem); (case h4 => kst_mem); (case u => exact Nat.le_of_ble_eq_true rfl); (case n => k_is); (case s => k_is); (case f => k_is))))
local macro_rules | `(tactic| walk_at "compareOp GtE ref ref") => `(tactic| (k_here; (with_reducible show wpAny _ _ (compareOp _ (Value.ref _) (Value.ref _)) _ _ _); k_dflt ((refine cmp_ofGtE ?_); (refine' cmp_sets (f := 107) ?g1 ?g2 ?F ?X ?N ?h1 ?h2 ?h3 ?h4 ?u ?n ?s ?f ?_); (case g1 => with_reducible assumption); (case g2 => with_reducible assumption); (case F => k_asm); (case X => k_asm); (case N => k_asm); (case h1 => kst_mem); (case h2 => kst_mem); (case h3 => kst_mem); (case h4 => kst_mem); (case u => exact Nat.le_of_ble_eq_true rfl); (case n => k_is); (case s => k_is); (case f => k_is))))
local macro_rules | `(tactic| walk_at "compareOp Gt ref ref") => `(tactic| (k_here; (with_reducible show wpAny _ _ (compareOp _ (Value.ref _) (Value.ref _)) _ _ _); k_dflt ((refine cmp_ofGt ?_); (refine' cmp_sets (f := 114) ?g1 ?g2 ?F ?X ?N ?h1 ?h2 ?h3 ?h4 ?u ?n ?s ?f ?_); (case g1 => with_reducible assumption); (case g2 => with_reducible assumption); (case F => k_asm); (case X => k_asm); (case N => k_asm); (case h1 => kst_mem); (case h2 => kst_mem); (case h3 => kst_mem); (case h4 => kst_mem); (case u => exact Nat.le_of_ble_eq_true rfl); (case n => k_is); (case s => k_is); (case f => k_is))))
local macro_rules | `(tactic| walk_at "compareOp Eq ref ref") => `(tactic| (k_here; (with_reducible show wpAny _ _ (compareOp _ (Value.ref _) (Value.ref _)) _ _ _); k_dflt ((refine cmp_ofEq ?_); (refine' cmp_sets (f := 79) ?g1 ?g2 ?F ?X ?N ?h1 ?h2 ?h3 ?h4 ?u ?n ?s ?f ?_); (case g1 => with_reducible assumption); (case g2 => with_reducible assumption); (case F => k_asm); (case X => k_asm); (case N => k_asm); (case h1 => kst_mem); (case h2 => kst_mem); (case h3 => kst_mem); (case h4 => kst_mem); (case u => exact Nat.le_of_ble_eq_true rfl); (case n => k_is); (case s => k_is); (case f => k_is))))
local macro_rules | `(tactic| walk_at "compareOp NotEq ref ref") => `(tactic| (k_here; (with_reducible show wpAny _ _ (compareOp _ (Value.ref _) (Value.ref _)) _ _ _); k_dflt ((refine cmp_ofNotEq ?_); (refine' cmp_sets (f := 86) ?g1 ?g2 ?F ?X ?N ?h1 ?h2 ?h3 ?h4 ?u ?n ?s ?f ?_); (case g1 => with_reducible assumption); (case g2 => with_reducible assumption); (case F => k_asm); (case X => k_asm); (case N => k_asm); (case h1 => kst_mem); (case h2 => kst_mem); (case h3 => kst_mem); (case h4 => kst_mem); (case u => exact Nat.le_of_ble_eq_true rfl); (case n => k_is); (case s => k_is); (case f => k_is))))
local macro_rules | `(tactic| walk_at "subscriptTail Name Slice ref ref") => `(tactic| (k_here; (with_reducible show wpAny _ _ (subscriptTail _ (PySem.Expr.Slice _ _ none _) (Value.ref _) (Value.ref _)) _ _ _); k_dflt ((refine' u_slice ?F ?N ?c ?a ?t ?O ?p ?q ?e ?z (fun D9 h9 n9 O9 F9 N9 => ?_) ?hs ?ht); (case F => k_asm); (case N => k_asm); (case c => acc_binds); (case a => kst_mem); (case t => with_reducible assumption); (case O => acc_keepN); (case p => kmk_part); (case q => kmk_part); (case e => exact (show kms_pick [_, _] none (some 1) = [_] from rfl)); (case z => first | assumption | omega); (case hs => with_unfolding_all rfl); (case ht => kmk_pure))))
local macro_rules | `(tactic| walk_at "subscriptTail Name Slice ref ref") => `(tactic| (k_here; (with_reducible show wpAny _ _ (subscriptTail _ (PySem.Expr.Slice none none (some _) _) (Value.ref _) (Value.ref _)) _ _ _); k_dflt ((refine' u_rev ?F ?N ?c ?a ?t ?O ?p ?z (fun D9 h9 n9 O9 F9 N9 => ?_) ?hs ?ht); (case F => k_asm); (case N => k_asm); (case c => acc_binds); (case a => kst_mem); (case t => with_reducible assumption); (case O => acc_keepN); (case p => kmk_part); (case z => first | assumption | omega); (case hs => with_unfolding_all rfl); (case ht => kmk_pure))))
local macro_rules | `(tactic| walk_at "binaryOp BitXor ref ref") => `(tactic| (k_here; (with_reducible show wpAny _ _ (binaryOp _ (Value.ref _) (Value.ref _)) _ _ _); k_dflt (refine' binop_K ?k1 ?k2 ?k3 ?k4 ?k5 ?k6 ?k7 ?_; (case k1 => k_asm); (case k2 => k_asm); (case k3 => k_inst); (case k4 => k_typeOf); (case k5 => k_is); (case k6 => k_is); (case k7 => k_is); k_whole)))
section
example : True := by w_top off; trivial

theorem q_0 {w : World} {d : List Value} {own : Led} {L S D Ls T E Lt r q lL lM sm NL : Addr} {TT : Value} {xs ys : List Value} {z1 z2 : Value} {nr nq nl nm ns : Nat} {o1 oa : Obj} {qn : Int} {tq : Tok} (hd : QIn d own L S D Ls T E Lt r q lL lM sm xs ys z1 z2 nr nq nl nm ns o1 oa) :
    BlkCE w L (lawSt 7) (bQ T q lL lM sm NL TT qn tq) own (fun b' own' => ∃ a b, b' = bE T q lL lM sm NL TT qn tq a b ∧ Kq own own' ∧ Same own' a b) := by
  obtain ⟨dom, htc, hdl, s1, s2, hr, hq, hl, hm, hs, gx, gy, z1d, z2d, hc1, e1, hca, ea⟩ := hd
  have hT : ∀ y ∈ d, Th y := fun y hy => (htc y hy).th
  have gxT := mem_th hT gx.mem
  have gyT := mem_th hT gy.mem
  have glT := mem_th hT (only_good (ys := ys) gx false).mem
  have gmT := mem_th hT (only_good (ys := xs) gy false).mem
  have gsd : ∀ y ∈ [z1, z2], y ∈ d := fun y hy => by
    rcases List.mem_cons.mp hy with rfl | hy
    · exact z1d
    · exact List.mem_singleton.mp hy ▸ z2d
  have gsT := mem_th hT gsd
  have gnT : ∀ y ∈ ([] : List Value), Th y := fun y hy => by cases hy
  have grT : ∀ y ∈ ys.reverse, Th y := fun y hy => gyT y (List.mem_reverse.mp hy)
  have xl := good_len dom gx hdl
  have yl := good_len dom gy hdl
  have ll := good_len dom (only_good (ys := ys) gx false) hdl
  have ml := good_len dom (only_good (ys := xs) gy false) hdl
  have sl : ([z1, z2] : List Value).length ≤ 1000 := Nat.le_of_ble_eq_true rfl
  obtain ⟨hS, ⟨hsh, tk, hD⟩, ⟨nL, hL⟩, hth, m1, m2, m3⟩ := id s1
  obtain ⟨hS2, ⟨hsh2, tk2, hD2⟩, ⟨nL2, hL2⟩, hth2, m4, m5, m6⟩ := id s2
  intro sc prog Q s h₀ fa cd mg mb u p loose mean fr₁ fr hs' F X Tp N tl O kk
  generalize hb : lawSt 7 = blk
  conv at hb => lhs; whnf
  conv at hs' => rhs; whnf
  subst hb
  subst hs'
  try dsimp only
  ktr_unf
  · rename (List.isEmpty _ = true) => he
    (rename Fr h₀ L _ _ => FZ; rename News h₀ L _ _ => NZ; rename Tl [] _ _ => TZ; rename Off _ [] => OZ)
    refine kk _ _ _ _ _ _ TZ (fr_binds FZ (ps := bE T q lL lM sm NL TT qn tq _ _) (by exact ⟨rfl, rfl, rfl, rfl, rfl, rfl, rfl, rfl, rfl, rfl, trivial⟩)) (fun p hp => NZ p (.tail _ hp)) OZ ⟨_, _, rfl, fun p hp => by kst_mem, ⟨_, _, _, _, by kst_mem, by kst_mem, by rfl, fun j hj => ?_⟩⟩
    rcases j with _ | _ | _ | j
    · exact eqv_bool (by rw [q_sub dom gx gy]; simp)
    · exact eqv_bool (by rw [q_sub dom gx gy]; simp)
    · exact eqv_bool (by rw [q_lt dom gx gy, he]; simp [eqL_nil])
    · exact absurd hj (by simp)
  · rename (List.isEmpty _ = false) => he
    (rename Fr h₀ L _ _ => FZ; rename News h₀ L _ _ => NZ; rename Tl [] _ _ => TZ; rename Off _ [] => OZ)
    refine kk _ _ _ _ _ _ TZ (fr_binds FZ (ps := bE T q lL lM sm NL TT qn tq _ _) (by exact ⟨rfl, rfl, rfl, rfl, rfl, rfl, rfl, rfl, rfl, rfl, trivial⟩)) (fun p hp => NZ p (.tail _ hp)) OZ ⟨_, _, rfl, fun p hp => by kst_mem, ⟨_, _, _, _, by kst_mem, by kst_mem, by rfl, fun j hj => ?_⟩⟩
    rcases j with _ | _ | _ | j
    · exact eqv_bool (by rw [q_sub dom gx gy]; simp)
    · exact eqv_bool (by rw [q_sub dom gx gy]; simp)
    · exact eqv_bool (by rw [q_lt dom gx gy, he]; simp [eqL_nil])
    · exact absurd hj (by simp)
end
section
example : True := by w_top off; trivial

theorem q_1 {w : World} {d : List Value} {own : Led} {L S D Ls T E Lt r q lL lM sm NL : Addr} {TT : Value} {xs ys : List Value} {z1 z2 : Value} {nr nq nl nm ns : Nat} {o1 oa : Obj} {qn : Int} {tq : Tok} (hd : QIn d own L S D Ls T E Lt r q lL lM sm xs ys z1 z2 nr nq nl nm ns o1 oa) :
    BlkC w L (branch 0 [lawSt 8]) (bQ T q lL lM sm NL TT qn tq) own (fun b' own' => ∃ a b, b' = bE T q lL lM sm NL TT qn tq a b ∧ Kq own own' ∧ Same own' a b) := by
  obtain ⟨dom, htc, hdl, s1, s2, hr, hq, hl, hm, hs, gx, gy, z1d, z2d, hc1, e1, hca, ea⟩ := hd
  have hT : ∀ y ∈ d, Th y := fun y hy => (htc y hy).th
  have gxT := mem_th hT gx.mem
  have gyT := mem_th hT gy.mem
  have glT := mem_th hT (only_good (ys := ys) gx false).mem
  have gmT := mem_th hT (only_good (ys := xs) gy false).mem
  have gsd : ∀ y ∈ [z1, z2], y ∈ d := fun y hy => by
    rcases List.mem_cons.mp hy with rfl | hy
    · exact z1d
    · exact List.mem_singleton.mp hy ▸ z2d
  have gsT := mem_th hT gsd
  have gnT : ∀ y ∈ ([] : List Value), Th y := fun y hy => by cases hy
  have grT : ∀ y ∈ ys.reverse, Th y := fun y hy => gyT y (List.mem_reverse.mp hy)
  have xl := good_len dom gx hdl
  have yl := good_len dom gy hdl
  have ll := good_len dom (only_good (ys := ys) gx false) hdl
  have ml := good_len dom (only_good (ys := xs) gy false) hdl
  have sl : ([z1, z2] : List Value).length ≤ 1000 := Nat.le_of_ble_eq_true rfl
  obtain ⟨hS, ⟨hsh, tk, hD⟩, ⟨nL, hL⟩, hth, m1, m2, m3⟩ := id s1
  obtain ⟨hS2, ⟨hsh2, tk2, hD2⟩, ⟨nL2, hL2⟩, hth2, m4, m5, m6⟩ := id s2
  intro sc prog Q s h₀ fa cd mg mb u p loose mean fr₁ fr hs' F X Tp N tl O kk
  generalize hb : branch 0 [lawSt 8] = blk
  conv at hb => lhs; whnf
  conv at hs' => rhs; whnf
  subst hb
  subst hs'
  try dsimp only
  ktr_unf
  · rename (List.isEmpty _ = true) => he
    (rename Fr h₀ L _ _ => FZ; rename News h₀ L _ _ => NZ; rename Tl [] _ _ => TZ; rename Off _ [] => OZ)
    refine kk _ _ _ _ _ _ TZ (fr_binds FZ (ps := bE T q lL lM sm NL TT qn tq _ _) (by exact ⟨rfl, rfl, rfl, rfl, rfl, rfl, rfl, rfl, rfl, rfl, trivial⟩)) (fun p hp => NZ p (.tail _ hp)) OZ ⟨_, _, rfl, fun p hp => by kst_mem, ⟨_, _, _, _, by kst_mem, by kst_mem, by rfl, fun j hj => ?_⟩⟩
    rcases j with _ | _ | _ | j
    · exact eqv_bool (by rw [q_sup dom gx gy]; simp)
    · exact eqv_bool (by rw [q_sup dom gx gy]; simp)
    · exact eqv_bool (by rw [q_gt dom gx gy, he]; simp [eqL_nil])
    · exact absurd hj (by simp)
  · rename (List.isEmpty _ = false) => he
    (rename Fr h₀ L _ _ => FZ; rename News h₀ L _ _ => NZ; rename Tl [] _ _ => TZ; rename Off _ [] => OZ)
    refine kk _ _ _ _ _ _ TZ (fr_binds FZ (ps := bE T q lL lM sm NL TT qn tq _ _) (by exact ⟨rfl, rfl, rfl, rfl, rfl, rfl, rfl, rfl, rfl, rfl, trivial⟩)) (fun p hp => NZ p (.tail _ hp)) OZ ⟨_, _, rfl, fun p hp => by kst_mem, ⟨_, _, _, _, by kst_mem, by kst_mem, by rfl, fun j hj => ?_⟩⟩
    rcases j with _ | _ | _ | j
    · exact eqv_bool (by rw [q_sup dom gx gy]; simp)
    · exact eqv_bool (by rw [q_sup dom gx gy]; simp)
    · exact eqv_bool (by rw [q_gt dom gx gy, he]; simp [eqL_nil])
    · exact absurd hj (by simp)
end
section
example : True := by w_top off; trivial

theorem q_3 {w : World} {d : List Value} {own : Led} {L S D Ls T E Lt r q lL lM sm NL : Addr} {TT : Value} {xs ys : List Value} {z1 z2 : Value} {nr nq nl nm ns : Nat} {o1 oa : Obj} {qn : Int} {tq : Tok} (hd : QIn d own L S D Ls T E Lt r q lL lM sm xs ys z1 z2 nr nq nl nm ns o1 oa) :
    BlkC w L (branch 2 [lawSt 8]) (bQ T q lL lM sm NL TT qn tq) own (fun b' own' => ∃ a b, b' = bE T q lL lM sm NL TT qn tq a b ∧ Kq own own' ∧ Same own' a b) := by
  obtain ⟨dom, htc, hdl, s1, s2, hr, hq, hl, hm, hs, gx, gy, z1d, z2d, hc1, e1, hca, ea⟩ := hd
  have hT : ∀ y ∈ d, Th y := fun y hy => (htc y hy).th
  have gxT := mem_th hT gx.mem
  have gyT := mem_th hT gy.mem
  have glT := mem_th hT (only_good (ys := ys) gx false).mem
  have gmT := mem_th hT (only_good (ys := xs) gy false).mem
  have gsd : ∀ y ∈ [z1, z2], y ∈ d := fun y hy => by
    rcases List.mem_cons.mp hy with rfl | hy
    · exact z1d
    · exact List.mem_singleton.mp hy ▸ z2d
  have gsT := mem_th hT gsd
  have gnT : ∀ y ∈ ([] : List Value), Th y := fun y hy => by cases hy
  have grT : ∀ y ∈ ys.reverse, Th y := fun y hy => gyT y (List.mem_reverse.mp hy)
  have xl := good_len dom gx hdl
  have yl := good_len dom gy hdl
  have ll := good_len dom (only_good (ys := ys) gx false) hdl
  have ml := good_len dom (only_good (ys := xs) gy false) hdl
  have sl : ([z1, z2] : List Value).length ≤ 1000 := Nat.le_of_ble_eq_true rfl
  obtain ⟨hS, ⟨hsh, tk, hD⟩, ⟨nL, hL⟩, hth, m1, m2, m3⟩ := id s1
  obtain ⟨hS2, ⟨hsh2, tk2, hD2⟩, ⟨nL2, hL2⟩, hth2, m4, m5, m6⟩ := id s2
  intro sc prog Q s h₀ fa cd mg mb u p loose mean fr₁ fr hs' F X Tp N tl O kk
  generalize hb : branch 2 [lawSt 8] = blk
  conv at hb => lhs; whnf
  conv at hs' => rhs; whnf
  subst hb
  subst hs'
  try dsimp only
  ktr_unf
  all_goals (
    (rename Fr h₀ L _ _ => FZ; rename News h₀ L _ _ => NZ; rename Tl [] _ _ => TZ; rename Off _ [] => OZ)
    refine kk _ _ _ _ _ _ TZ (fr_binds FZ (ps := bE T q lL lM sm NL TT qn tq _ _) (by exact ⟨rfl, rfl, rfl, rfl, rfl, rfl, rfl, rfl, rfl, rfl, trivial⟩)) (fun p hp => NZ p (.tail _ hp)) OZ ⟨_, _, rfl, fun p hp => by kst_mem, ⟨_, _, _, _, by kst_mem, by kst_mem, by rfl, fun j hj => ?_⟩⟩
    rcases j with _ | _ | j
    · first | exact eqv_bool rfl | exact Eqv.same _
    · first | exact eqv_bool rfl | exact Eqv.same _
    · exact absurd hj (by simp))
end
section
example : True := by w_top off; trivial

theorem q_4 {w : World} {d : List Value} {own : Led} {L S D Ls T E Lt r q lL lM sm NL : Addr} {TT : Value} {xs ys : List Value} {z1 z2 : Value} {nr nq nl nm ns : Nat} {o1 oa : Obj} {qn : Int} {tq : Tok} (hd : QIn d own L S D Ls T E Lt r q lL lM sm xs ys z1 z2 nr nq nl nm ns o1 oa) :
    BlkC w L (branch 3 [lawSt 8]) (bQ T q lL lM sm NL TT qn tq) own (fun b' own' => ∃ a b, b' = bE T q lL lM sm NL TT qn tq a b ∧ Kq own own' ∧ Same own' a b) := by
  obtain ⟨dom, htc, hdl, s1, s2, hr, hq, hl, hm, hs, gx, gy, z1d, z2d, hc1, e1, hca, ea⟩ := hd
  have hT : ∀ y ∈ d, Th y := fun y hy => (htc y hy).th
  have gxT := mem_th hT gx.mem
  have gyT := mem_th hT gy.mem
  have glT := mem_th hT (only_good (ys := ys) gx false).mem
  have gmT := mem_th hT (only_good (ys := xs) gy false).mem
  have gsd : ∀ y ∈ [z1, z2], y ∈ d := fun y hy => by
    rcases List.mem_cons.mp hy with rfl | hy
    · exact z1d
    · exact List.mem_singleton.mp hy ▸ z2d
  have gsT := mem_th hT gsd
  have gnT : ∀ y ∈ ([] : List Value), Th y := fun y hy => by cases hy
  have grT : ∀ y ∈ ys.reverse, Th y := fun y hy => gyT y (List.mem_reverse.mp hy)
  have xl := good_len dom gx hdl
  have yl := good_len dom gy hdl
  have ll := good_len dom (only_good (ys := ys) gx false) hdl
  have ml := good_len dom (only_good (ys := xs) gy false) hdl
  have sl : ([z1, z2] : List Value).length ≤ 1000 := Nat.le_of_ble_eq_true rfl
  obtain ⟨hS, ⟨hsh, tk, hD⟩, ⟨nL, hL⟩, hth, m1, m2, m3⟩ := id s1
  obtain ⟨hS2, ⟨hsh2, tk2, hD2⟩, ⟨nL2, hL2⟩, hth2, m4, m5, m6⟩ := id s2
  have gxm := gx.mem
  have gym := gy.mem
  have hlt := dom_lt dom
  have g1T : ∀ y ∈ [z1], Th y := mem_th hT (sin_mem z1d)
  have ga := add_good dom ys xs gx gym
  have gb := add_good dom [z1] (add xs ys) ga.1 (sin_mem z1d)
  have hyz : ∀ y ∈ ys ++ [z1], y ∈ d := fun y hy => (List.mem_append.mp hy).elim (gym y) (sin_mem z1d y)
  have e1 : add xs ys = put xs ys := ga.2.symm
  have e2 : add (add xs ys) [z1] = put xs (ys ++ [z1]) := by
    rw [(add_good dom (ys ++ [z1]) xs gx hyz).2]
    exact (List.foldl_append ..).symm
  have a1 : (add xs ys).length ≤ 100 := Nat.le_trans (good_len dom ga.1 hdl) (by decide)
  have a2 : (add (add xs ys) [z1]).length ≤ 100 := Nat.le_trans (good_len dom gb.1 hdl) (by decide)
  have v1 := mem_th hT ga.1.mem
  have v2 := mem_th hT gb.1.mem
  have hyl : (ys ++ [z1]).length ≤ 9 := by rw [List.length_append, List.length_singleton]; omega
  have u1 : ∀ y ∈ put xs ys, Th y := e1 ▸ v1
  have u2 : ∀ y ∈ put xs (ys ++ [z1]), Th y := e2 ▸ v2
  intro sc prog Q s h₀ fa cd mg mb u p loose mean fr₁ fr hs' F X Tp N tl O kk
  generalize hb : branch 3 [lawSt 8] = blk
  conv at hb => lhs; whnf
  conv at hs' => rhs; whnf
  subst hb
  subst hs'
  try dsimp only
  ktr_unf
  (rename Fr h₀ L _ _ => FZ; rename News h₀ L _ _ => NZ; rename Tl [] _ _ => TZ; rename Off _ [] => OZ)
  refine kk _ _ _ _ _ _ TZ (fr_binds FZ (ps := bE T q lL lM sm NL TT qn tq _ _) (by exact ⟨rfl, rfl, rfl, rfl, rfl, rfl, rfl, rfl, rfl, rfl, trivial⟩)) (fun p hp => NZ p (.tail _ hp)) OZ ⟨_, _, rfl, fun p hp => by kst_mem, ⟨_, _, _, _, by kst_mem, by kst_mem, by rfl, fun j hj => ?_⟩⟩
  rcases j with _ | _ | j
  · exact Eqv.rowE (by kst_mem) (by kst_mem) e2 u2
  · exact Eqv.rowE (by kst_mem) (by kst_mem) e1 u1
  · exact absurd hj (by simp)
end
section
example : True := by w_top off; trivial

theorem q_5 {w : World} {d : List Value} {own : Led} {L S D Ls T E Lt r q lL lM sm NL : Addr} {TT : Value} {xs ys : List Value} {z1 z2 : Value} {nr nq nl nm ns : Nat} {o1 oa : Obj} {qn : Int} {tq : Tok} (hd : QIn d own L S D Ls T E Lt r q lL lM sm xs ys z1 z2 nr nq nl nm ns o1 oa) :
    BlkC w L (branch 4 [lawSt 8]) (bQ T q lL lM sm NL TT qn tq) own (fun b' own' => ∃ a b, b' = bE T q lL lM sm NL TT qn tq a b ∧ Kq own own' ∧ Same own' a b) := by
  obtain ⟨dom, htc, hdl, s1, s2, hr, hq, hl, hm, hs, gx, gy, z1d, z2d, hc1, e1, hca, ea⟩ := hd
  have hT : ∀ y ∈ d, Th y := fun y hy => (htc y hy).th
  have gxT := mem_th hT gx.mem
  have gyT := mem_th hT gy.mem
  have glT := mem_th hT (only_good (ys := ys) gx false).mem
  have gmT := mem_th hT (only_good (ys := xs) gy false).mem
  have gsd : ∀ y ∈ [z1, z2], y ∈ d := fun y hy => by
    rcases List.mem_cons.mp hy with rfl | hy
    · exact z1d
    · exact List.mem_singleton.mp hy ▸ z2d
  have gsT := mem_th hT gsd
  have gnT : ∀ y ∈ ([] : List Value), Th y := fun y hy => by cases hy
  have grT : ∀ y ∈ ys.reverse, Th y := fun y hy => gyT y (List.mem_reverse.mp hy)
  have xl := good_len dom gx hdl
  have yl := good_len dom gy hdl
  have ll := good_len dom (only_good (ys := ys) gx false) hdl
  have ml := good_len dom (only_good (ys := xs) gy false) hdl
  have sl : ([z1, z2] : List Value).length ≤ 1000 := Nat.le_of_ble_eq_true rfl
  obtain ⟨hS, ⟨hsh, tk, hD⟩, ⟨nL, hL⟩, hth, m1, m2, m3⟩ := id s1
  obtain ⟨hS2, ⟨hsh2, tk2, hD2⟩, ⟨nL2, hL2⟩, hth2, m4, m5, m6⟩ := id s2
  have e1 := sel_only dom gx gy
  have g1 := only_good (ys := ys) gx true
  have e12 : mk ((mk (xs.filter (has ys))).filter fun x => [z1, z2].any fun y => eqV y x) = only (only xs ys true) [z1, z2] true := by rw [e1]; exact sel_list dom g1
  have g2 := only_good (ys := [z1, z2]) g1 true
  have k1 : (mk (xs.filter (has ys))).length ≤ 8 := by rw [e1]; exact good_len dom g1 hdl
  have k2 : (mk ((mk (xs.filter (has ys))).filter fun x => [z1, z2].any fun y => eqV y x)).length ≤ 8 := by rw [e12]; exact good_len dom g2 hdl
  have k3 := good_len dom g1 hdl
  have u1 := mem_th hT g1.mem
  have u2 := mem_th hT g2.mem
  intro sc prog Q s h₀ fa cd mg mb u p loose mean fr₁ fr hs' F X Tp N tl O kk
  generalize hb : branch 4 [lawSt 8] = blk
  conv at hb => lhs; whnf
  conv at hs' => rhs; whnf
  subst hb
  subst hs'
  try dsimp only
  ktr_unf
  (rename Fr h₀ L _ _ => FZ; rename News h₀ L _ _ => NZ; rename Tl [] _ _ => TZ; rename Off _ [] => OZ)
  refine kk _ _ _ _ _ _ TZ (fr_binds FZ (ps := bE T q lL lM sm NL TT qn tq _ _) (by exact ⟨rfl, rfl, rfl, rfl, rfl, rfl, rfl, rfl, rfl, rfl, trivial⟩)) (fun p hp => NZ p (.tail _ hp)) OZ ⟨_, _, rfl, fun p hp => by kst_mem, ⟨_, _, _, _, by kst_mem, by kst_mem, by rfl, fun j hj => ?_⟩⟩
  rcases j with _ | _ | j
  · exact Eqv.rowE (by kst_mem) (by kst_mem) e12 u2
  · exact Eqv.rowE (by kst_mem) (by kst_mem) e1 u1
  · exact absurd hj (by simp)
end
section
example : True := by w_top off; trivial

theorem q_6 {w : World} {d : List Value} {own : Led} {L S D Ls T E Lt r q lL lM sm NL : Addr} {TT : Value} {xs ys : List Value} {z1 z2 : Value} {nr nq nl nm ns : Nat} {o1 oa : Obj} {qn : Int} {tq : Tok} (hd : QIn d own L S D Ls T E Lt r q lL lM sm xs ys z1 z2 nr nq nl nm ns o1 oa) :
    BlkC w L (branch 5 [lawSt 8]) (bQ T q lL lM sm NL TT qn tq) own (fun b' own' => ∃ a b, b' = bE T q lL lM sm NL TT qn tq a b ∧ Kq own own' ∧ Same own' a b) := by
  obtain ⟨dom, htc, hdl, s1, s2, hr, hq, hl, hm, hs, gx, gy, z1d, z2d, hc1, e1, hca, ea⟩ := hd
  have hT : ∀ y ∈ d, Th y := fun y hy => (htc y hy).th
  have gxT := mem_th hT gx.mem
  have gyT := mem_th hT gy.mem
  have glT := mem_th hT (only_good (ys := ys) gx false).mem
  have gmT := mem_th hT (only_good (ys := xs) gy false).mem
  have gsd : ∀ y ∈ [z1, z2], y ∈ d := fun y hy => by
    rcases List.mem_cons.mp hy with rfl | hy
    · exact z1d
    · exact List.mem_singleton.mp hy ▸ z2d
  have gsT := mem_th hT gsd
  have gnT : ∀ y ∈ ([] : List Value), Th y := fun y hy => by cases hy
  have grT : ∀ y ∈ ys.reverse, Th y := fun y hy => gyT y (List.mem_reverse.mp hy)
  have xl := good_len dom gx hdl
  have yl := good_len dom gy hdl
  have ll := good_len dom (only_good (ys := ys) gx false) hdl
  have ml := good_len dom (only_good (ys := xs) gy false) hdl
  have sl : ([z1, z2] : List Value).length ≤ 1000 := Nat.le_of_ble_eq_true rfl
  obtain ⟨hS, ⟨hsh, tk, hD⟩, ⟨nL, hL⟩, hth, m1, m2, m3⟩ := id s1
  obtain ⟨hS2, ⟨hsh2, tk2, hD2⟩, ⟨nL2, hL2⟩, hth2, m4, m5, m6⟩ := id s2
  have e1 := del_only dom gx gy
  have g1 := only_good (ys := ys) gx false
  have e12 : mk ((mk (xs.filter fun x => !has ys x)).filter fun x => !([z1, z2].any fun y => eqV y x)) = only (only xs ys false) [z1, z2] false := by rw [e1]; exact del_list dom g1
  have g2 := only_good (ys := [z1, z2]) g1 false
  have k1 : (mk (xs.filter fun x => !has ys x)).length ≤ 8 := by rw [e1]; exact good_len dom g1 hdl
  have k2 : (mk ((mk (xs.filter fun x => !has ys x)).filter fun x => !([z1, z2].any fun y => eqV y x))).length ≤ 8 := by rw [e12]; exact good_len dom g2 hdl
  have k3 := good_len dom g1 hdl
  have u1 := mem_th hT g1.mem
  have u2 := mem_th hT g2.mem
  intro sc prog Q s h₀ fa cd mg mb u p loose mean fr₁ fr hs' F X Tp N tl O kk
  generalize hb : branch 5 [lawSt 8] = blk
  conv at hb => lhs; whnf
  conv at hs' => rhs; whnf
  subst hb
  subst hs'
  try dsimp only
  ktr_unf
  (rename Fr h₀ L _ _ => FZ; rename News h₀ L _ _ => NZ; rename Tl [] _ _ => TZ; rename Off _ [] => OZ)
  refine kk _ _ _ _ _ _ TZ (fr_binds FZ (ps := bE T q lL lM sm NL TT qn tq _ _) (by exact ⟨rfl, rfl, rfl, rfl, rfl, rfl, rfl, rfl, rfl, rfl, trivial⟩)) (fun p hp => NZ p (.tail _ hp)) OZ ⟨_, _, rfl, fun p hp => by kst_mem, ⟨_, _, _, _, by kst_mem, by kst_mem, by rfl, fun j hj => ?_⟩⟩
  rcases j with _ | _ | j
  · exact Eqv.rowE (by kst_mem) (by kst_mem) e12 u2
  · exact Eqv.rowE (by kst_mem) (by kst_mem) e1 u1
  · exact absurd hj (by simp)
end
section
example : True := by w_top off; trivial

theorem q_7 {w : World} {d : List Value} {own : Led} {L S D Ls T E Lt r q lL lM sm NL : Addr} {TT : Value} {xs ys : List Value} {z1 z2 : Value} {nr nq nl nm ns : Nat} {o1 oa : Obj} {qn : Int} {tq : Tok} (hd : QIn d own L S D Ls T E Lt r q lL lM sm xs ys z1 z2 nr nq nl nm ns o1 oa) :
    BlkC w L (branch 6 [lawSt 8]) (bQ T q lL lM sm NL TT qn tq) own (fun b' own' => ∃ a b, b' = bE T q lL lM sm NL TT qn tq a b ∧ Kq own own' ∧ Same own' a b) := by
  obtain ⟨dom, htc, hdl, s1, s2, hr, hq, hl, hm, hs, gx, gy, z1d, z2d, hc1, e1, hca, ea⟩ := hd
  have hT : ∀ y ∈ d, Th y := fun y hy => (htc y hy).th
  have gxT := mem_th hT gx.mem
  have gyT := mem_th hT gy.mem
  have glT := mem_th hT (only_good (ys := ys) gx false).mem
  have gmT := mem_th hT (only_good (ys := xs) gy false).mem
  have gsd : ∀ y ∈ [z1, z2], y ∈ d := fun y hy => by
    rcases List.mem_cons.mp hy with rfl | hy
    · exact z1d
    · exact List.mem_singleton.mp hy ▸ z2d
  have gsT := mem_th hT gsd
  have gnT : ∀ y ∈ ([] : List Value), Th y := fun y hy => by cases hy
  have grT : ∀ y ∈ ys.reverse, Th y := fun y hy => gyT y (List.mem_reverse.mp hy)
  have xl := good_len dom gx hdl
  have yl := good_len dom gy hdl
  have ll := good_len dom (only_good (ys := ys) gx false) hdl
  have ml := good_len dom (only_good (ys := xs) gy false) hdl
  have sl : ([z1, z2] : List Value).length ≤ 1000 := Nat.le_of_ble_eq_true rfl
  obtain ⟨hS, ⟨hsh, tk, hD⟩, ⟨nL, hL⟩, hth, m1, m2, m3⟩ := id s1
  obtain ⟨hS2, ⟨hsh2, tk2, hD2⟩, ⟨nL2, hL2⟩, hth2, m4, m5, m6⟩ := id s2
  have e1 := sym_put dom gx gy
  have gl := only_good (ys := ys) gx false
  have gm := only_good (ys := xs) gy false
  have glm := gl.mem
  have gmm := gm.mem
  have hlt := dom_lt dom
  have g1 : Good d (put (only xs ys false) (only ys xs false)) := by rw [(add_good dom _ _ gl gmm).2]; exact (add_good dom _ _ gl gmm).1
  have k1 : (symd xs ys).length ≤ 8 := by rw [e1]; exact good_len dom g1 hdl
  have k3 := good_len dom g1 hdl
  have u1 := mem_th hT g1.mem
  intro sc prog Q s h₀ fa cd mg mb u p loose mean fr₁ fr hs' F X Tp N tl O kk
  generalize hb : branch 6 [lawSt 8] = blk
  conv at hb => lhs; whnf
  conv at hs' => rhs; whnf
  subst hb
  subst hs'
  try dsimp only
  ktr_unf
  (rename Fr h₀ L _ _ => FZ; rename News h₀ L _ _ => NZ; rename Tl [] _ _ => TZ; rename Off _ [] => OZ)
  refine kk _ _ _ _ _ _ TZ (fr_binds FZ (ps := bE T q lL lM sm NL TT qn tq _ _) (by exact ⟨rfl, rfl, rfl, rfl, rfl, rfl, rfl, rfl, rfl, rfl, trivial⟩)) (fun p hp => NZ p (.tail _ hp)) OZ ⟨_, _, rfl, fun p hp => by kst_mem, ⟨_, _, _, _, by kst_mem, by kst_mem, by rfl, fun j hj => ?_⟩⟩
  rcases j with _ | _ | j
  · exact Eqv.rowE (by kst_mem) (by kst_mem) e1 u1
  · exact Eqv.rowE (by kst_mem) (by kst_mem) e1 u1
  · exact absurd hj (by simp)
end
section
example : True := by w_top off; trivial

theorem q_8 {w : World} {d : List Value} {own : Led} {L S D Ls T E Lt r q lL lM sm NL : Addr} {TT : Value} {xs ys : List Value} {z1 z2 : Value} {nr nq nl nm ns : Nat} {o1 oa : Obj} {qn : Int} {tq : Tok} (hd : QIn d own L S D Ls T E Lt r q lL lM sm xs ys z1 z2 nr nq nl nm ns o1 oa) :
    BlkC w L (branch 7 [lawSt 8]) (bQ T q lL lM sm NL TT qn tq) own (fun b' own' => ∃ a b, b' = bE T q lL lM sm NL TT qn tq a b ∧ Kq own own' ∧ Same own' a b) := by
  obtain ⟨dom, htc, hdl, s1, s2, hr, hq, hl, hm, hs, gx, gy, z1d, z2d, hc1, e1, hca, ea⟩ := hd
  have hT : ∀ y ∈ d, Th y := fun y hy => (htc y hy).th
  have gxT := mem_th hT gx.mem
  have gyT := mem_th hT gy.mem
  have glT := mem_th hT (only_good (ys := ys) gx false).mem
  have gmT := mem_th hT (only_good (ys := xs) gy false).mem
  have gsd : ∀ y ∈ [z1, z2], y ∈ d := fun y hy => by
    rcases List.mem_cons.mp hy with rfl | hy
    · exact z1d
    · exact List.mem_singleton.mp hy ▸ z2d
  have gsT := mem_th hT gsd
  have gnT : ∀ y ∈ ([] : List Value), Th y := fun y hy => by cases hy
  have grT : ∀ y ∈ ys.reverse, Th y := fun y hy => gyT y (List.mem_reverse.mp hy)
  have xl := good_len dom gx hdl
  have yl := good_len dom gy hdl
  have ll := good_len dom (only_good (ys := ys) gx false) hdl
  have ml := good_len dom (only_good (ys := xs) gy false) hdl
  have sl : ([z1, z2] : List Value).length ≤ 1000 := Nat.le_of_ble_eq_true rfl
  obtain ⟨hS, ⟨hsh, tk, hD⟩, ⟨nL, hL⟩, hth, m1, m2, m3⟩ := id s1
  obtain ⟨hS2, ⟨hsh2, tk2, hD2⟩, ⟨nL2, hL2⟩, hth2, m4, m5, m6⟩ := id s2
  have gxm := gx.mem
  have hlt := dom_lt dom
  have ga := add_good dom [z1, z2] xs gx gsd
  have a1 : (add xs [z1, z2]).length ≤ 8 := good_len dom ga.1 hdl
  have sl2 : ([z1, z2] : List Value).length ≤ 8 := Nat.le_of_ble_eq_true rfl
  have v1 := mem_th hT ga.1.mem
  have e1 : add xs [z1, z2] = put xs [z1, z2] := ga.2.symm
  have u1 : ∀ y ∈ put xs [z1, z2], Th y := e1 ▸ v1
  intro sc prog Q s h₀ fa cd mg mb u p loose mean fr₁ fr hs' F X Tp N tl O kk
  generalize hb : branch 7 [lawSt 8] = blk
  conv at hb => lhs; whnf
  conv at hs' => rhs; whnf
  subst hb
  subst hs'
  try dsimp only
  ktr_unf
  rename SetAt _ _ _ _ xs => sT
  rename New own _ => nLT
  obtain ⟨tS, ⟨tv1, tv2, tD⟩, ⟨tn, tL⟩, tth, t1, t2, t3⟩ := id sT
  ktr_unf
  unfold Hold
  (rename Fr h₀ L _ _ => F6; rename News h₀ L _ _ => N6)
  refine LCg.ListComp_U F6 (by with_unfolding_all rfl) (by decide) (by rfl) (by decide) (by rfl) ?_
  ktr_unf
  rename_i RT cT hA tkA oA frA TA OA nwA kqA hmA hB tkB frB TB FB tkB8 NB OB hC tkC tC1 tC2 tC3 hR F7 N7 kC
  unfold Hold
  refine LCg.CompSrc.range (n := xs.length) rfl F7 N7 hR (small_n (by omega)) (range_n _) (sizeLine_ge (by omega)) fun g => ?_
  clear F7 N7 hR FB NB kC F6 N6 OB
  refine comp_restU (fun j ys nw => ∃ fr', nw = oA ++ fr' ∧ Tl [] fr₁ fr' ∧ ys = xs.take j) ⟨frB, rfl, TB, rfl⟩ ?_ ?_
  · rintro ys nw ⟨fr', rfl, T8, rfl⟩ DD h tk F8 N8 off8
    rw [List.take_length] at N8
    obtain ⟨oD, eD⟩ : ∃ o : Led, o = (DD, listOf xs.toArray xs.length) :: oA := ⟨_, rfl⟩
    have OD : Off oD [] := eD ▸ Off.cons (off1_frs off8 T8) OA
    have mD : (DD, listOf xs.toArray xs.length) ∈ oD := eD ▸ .head _
    have kqD : Kq oA oD := fun p hp => eD ▸ .tail _ hp
    have ND : News h₀ L h (oD ++ fr') := by rw [eD]; exact N8
    clear N8 off8 eD
    dsimp only
    ktr_unf
    (rename Fr h₀ L _ _ => FZ; rename News h₀ L _ _ => NZ; rename Tl [] _ _ => TZ; rename Off _ [] => OZ)
    refine kk _ _ _ _ _ _ TZ (fr_binds FZ (ps := bE T q lL lM sm NL TT qn tq _ _) (by exact ⟨rfl, rfl, rfl, rfl, rfl, rfl, rfl, rfl, rfl, rfl, trivial⟩)) (fun p hp => NZ p (.tail _ hp)) OZ ⟨_, _, rfl, fun p hp => by have hpL := nLT p hp; kst_mem, ⟨_, _, _, _, by kst_mem, by kst_mem, by rfl, fun j hj => ?_⟩⟩
    rcases j with _ | _ | j
    · exact Eqv.rowE (by kst_mem) (by kst_mem) e1 u1
    · exact Eqv.rowE (by kst_mem) (by kst_mem) rfl hth
    · exact absurd hj (by simp)
  · rintro j ys nw hj ⟨fr', rfl, T8, rfl⟩ v' I2 oI2 C oC DD m₂ h tk E' ⟨tt, hvv⟩ hns hm F8 N8 off8 ne8
    rw [Int.zero_add] at hvv
    subst hvv
    have O8 := off3_off (oI := oI2) (oC := oC) (oD := LCg.lst (xs.take j)) off8 T8 OA
    have hvj : xs[j]? = some (xs.getD j .none) := by rw [List.getD_eq_getElem?_getD, List.getElem?_eq_getElem hj]; rfl
    ktr_unf
    (rename News h₀ L _ _ => N9; rename Fr h₀ L _ _ => F9; rename Tl [] _ _ => T9)
    exact ⟨_, _, _, rfl, F9, N9, off3_next off8 T8 T9, trivial, _, rfl, T9, (take_snocG hvj).symm⟩
end
section
example : True := by w_top off; trivial
theorem st_4 {w : World} {own : Led} {L P W NL S T r q : Addr} {TT : Value} {np nW : Nat} {o1 oa : Obj} {v1 va : Option Value} (hP : (P, listOf [.ref S, .ref T].toArray np) ∈ own) (hW : (W, listOf [.ref r, .ref q].toArray nW) ∈ own) (hc1 : (L + 1 + 1, o1) ∈ own) (e1 : o1.data = .cell v1) (hca : (L + 1 + 1 + 1, oa) ∈ own) (ea : oa.data = .cell va) (n1 : P ≠ L + 1 + 1 ∧ W ≠ L + 1 + 1) (na : P ≠ L + 1 + 1 + 1 ∧ W ≠ L + 1 + 1 + 1) :
    BlkCE w L (lawSt 4) (bLaw P W NL TT) own (fun b' own' => b' = b4 T q NL TT ∧ (∀ p ∈ own, p.1 ≠ L + 1 + 1 → p.1 ≠ L + 1 + 1 + 1 → p ∈ own') ∧ (∃ o, (L + 1 + 1, o) ∈ own' ∧ o.data = .cell (some (.ref S))) ∧ (∃ o, (L + 1 + 1 + 1, o) ∈ own' ∧ o.data = .cell (some (.ref r)))) := by
  obtain ⟨n1, n2⟩ := n1
  obtain ⟨n3, n4⟩ := na
  have h0i : (0 : Int) = ((0 : Nat) : Int) := rfl
  have h1i : (1 : Int) = ((1 : Nat) : Int) := rfl
  have hp0 : ([.ref S, .ref T] : List Value).getD 0 .none = .ref S := rfl
  have hp1 : ([.ref S, .ref T] : List Value).getD 1 .none = .ref T := rfl
  have hw0 : ([.ref r, .ref q] : List Value).getD 0 .none = .ref r := rfl
  have hw1 : ([.ref r, .ref q] : List Value).getD 1 .none = .ref q := rfl
  have hl1 : ([.ref S, .ref T] : List Value).length ≤ 1000 := Nat.le_of_ble_eq_true rfl
  have hl2 : ([.ref r, .ref q] : List Value).length ≤ 1000 := Nat.le_of_ble_eq_true rfl
  have hk0 : 0 < ([.ref S, .ref T] : List Value).length := Nat.le_of_ble_eq_true rfl
  have hk1 : 1 < ([.ref S, .ref T] : List Value).length := Nat.le_of_ble_eq_true rfl
  have hk2 : 0 < ([.ref r, .ref q] : List Value).length := Nat.le_of_ble_eq_true rfl
  have hk3 : 1 < ([.ref r, .ref q] : List Value).length := Nat.le_of_ble_eq_true rfl
  have hca1 : L + 1 + 1 ≠ L + 1 + 1 + 1 := Nat.ne_of_lt (Nat.lt_succ_self _)
  intro sc prog Q s h₀ fa cd mg mb u p loose mean fr₁ fr hs' F X Tp N tl O kk
  generalize hb : lawSt 4 = blk
  conv at hb => lhs; whnf
  conv at hs' => rhs; whnf
  subst hb
  subst hs'
  try dsimp only
  ktr_unf
  refine u_cell (c := L + 1 + 1) (o := o1) (by k_asm) (by k_asm) Cut.b1 (.tail _ hc1) e1 tl off_nil rfl rfl rfl fun h1 own1 oc1 kp1 hm1 he1 O1 F1 N1 => ?_
  ktr_unf
  refine u_cell (c := L + 1 + 1 + 1) (o := oa) (by k_asm) (by k_asm) Cut.base (kp1 _ (.tail _ hca) (ne_flip hca1)) ea tl off_nil rfl rfl rfl fun h2 own2 oc2 kp2 hm2 he2 O2 F2 N2 => ?_
  ktr_unf
  (rename Fr h₀ L _ _ => FZ; rename News h₀ L _ _ => NZ)
  exact kk _ _ _ _ _ _ tl (fr_binds FZ (ps := b4 T q NL TT) (by exact ⟨rfl, rfl, rfl, rfl, trivial⟩)) NZ off_nil ⟨rfl, fun p hp a b => kp2 _ (kp1 _ (.tail _ hp) a) b, ⟨oc1, kp2 _ hm1 hca1, he1⟩, ⟨oc2, hm2, he2⟩⟩
end
section
example : True := by w_top off; trivial
theorem st_5 {w : World} {d : List Value} {own : Led} {L T r q NL : Addr} {TT : Value} {xs ys : List Value} {nr nq : Nat} {oa : Obj} (dom : Dom d) (htc : ∀ y ∈ d, Tc y) (hdl : d.length ≤ 8) (gx : Good d xs) (gy : Good d ys) (hr : (r, listOf xs.toArray nr) ∈ own) (hq : (q, listOf ys.toArray nq) ∈ own) (hca : (L + 1 + 1 + 1, oa) ∈ own) (ea : oa.data = .cell (some (.ref r))) :
    BlkCE w L (lawSt 5) (b4 T q NL TT) own (fun b' own' => ∃ lL lM nl nm, b' = b5 T q NL TT lL lM ∧ Kq own own' ∧ (lL, listOf (only xs ys false).toArray nl) ∈ own' ∧ (lM, listOf (only ys xs false).toArray nm) ∈ own') := by
  have hT : ∀ y ∈ d, Th y := fun y hy => (htc y hy).th
  have gxT := mem_th hT gx.mem
  have gyT := mem_th hT gy.mem
  have xl := good_len dom gx hdl
  have yl := good_len dom gy hdl
  intro sc prog Q s h₀ fa cd mg mb u p loose mean fr₁ fr hs' F X Tp N tl O kk
  generalize hb : lawSt 5 = blk
  conv at hb => lhs; whnf
  conv at hs' => rhs; whnf
  subst hb
  subst hs'
  try dsimp only
  ktr_unf
  (rename Fr h₀ L _ _ => FZ; rename News h₀ L _ _ => NZ; rename Tl [] _ _ => TZ; rename Off _ [] => OZ)
  refine kk _ _ _ _ _ _ TZ (fr_binds FZ (ps := b5 T q NL TT _ _) (by exact ⟨rfl, rfl, rfl, rfl, rfl, rfl, trivial⟩)) (fun p hp => NZ p (.tail _ hp)) OZ ⟨_, _, _, _, rfl, fun p hp => by kst_mem, by kst_mem, by kst_mem⟩
end
section
example : True := by w_top off; trivial
theorem st_6 {w : World} {d : List Value} {own : Led} {L T q NL lL lM ta : Addr} {nums : List Value} {nN jt : Nat} {n : Int} {tn : Tok} {z1 z2 : Value} (hdl : d.length ≤ 8)
    (hta : ∀ h₀ : Heap, (Mine.hd.heap_39 w.params).In h₀ → h₀.IsTuple ta d.toArray) (hNL : (NL, listOf nums.toArray nN) ∈ own) (hnl : nums.length ≤ 1000) (hni : 1 < nums.length) (hnv : nums.getD 1 .none = .int n tn)
    (hjt : Int.fmod (Int.fdiv n 9) 8 = (jt : Int)) (hj8 : jt < d.length) (hz1 : d.getD jt .none = z1) (h5 : 5 < d.length) (hz2 : d.getD 5 .none = z2) :
    BlkCE w L (lawSt 6) (b5 T q NL (.ref ta) lL lM) own (fun b' own' => ∃ sm ns tq, b' = bQ T q lL lM sm NL (.ref ta) (Int.fmod n 9) tq ∧ Kq own own' ∧ (sm, listOf [z1, z2].toArray ns) ∈ own') := by
  have hdz : d.length ≤ 1000 := by omega
  have h1i : (1 : Int) = ((1 : Nat) : Int) := rfl
  have h5i : (5 : Int) = ((5 : Nat) : Int) := rfl
  intro sc prog Q s h₀ fa cd mg mb u p loose mean fr₁ fr hs' F X Tp N tl O kk
  have hta' := hta h₀ X
  generalize hb : lawSt 6 = blk
  conv at hb => lhs; whnf
  conv at hs' => rhs; whnf
  subst hb
  subst hs'
  try dsimp only
  ktr_unf
  (rename Fr h₀ L _ _ => FZ; rename News h₀ L _ _ => NZ; rename Off _ [] => OZ)
  refine kk _ _ _ _ _ _ tl (fr_binds FZ (ps := bQ T q lL lM _ NL (.ref ta) (Int.fmod n 9) _) (by exact ⟨rfl, rfl, rfl, rfl, rfl, rfl, rfl, rfl, trivial⟩)) (fun p hp => NZ p (.tail _ hp)) OZ ⟨_, _, _, rfl, fun p hp => by kst_mem, by kst_mem⟩
end
section
example : True := by w_top off; trivial
theorem st_1 {w : World} {own : Led} {L NL : Addr} {nums : List Value} {nN j ta : Nat} {n : Int} {tn : Tok} (hNL : (NL, listOf nums.toArray nN) ∈ own) (hnl : nums.length ≤ 1000) (hni : 0 < nums.length) (hnv : nums.getD 0 .none = .int n tn) (hj : Int.fmod n 2 = (j : Int)) (hj2 : j < 2) (ht : ([.ref 311, .ref 312] : List Value).getD j .none = .ref ta) :
    BlkCE w L (lawSt 1) [("numbers", .ref NL)] own (fun b' own' => own' = own ∧ b' = b1 NL (.ref ta)) := by
  have h0i : (0 : Int) = ((0 : Nat) : Int) := rfl
  have hd : ([.ref 311, .ref 312] : List Value).length ≤ 1000 := Nat.le_of_ble_eq_true rfl
  have hjl : j < ([.ref 311, .ref 312] : List Value).length := hj2
  intro sc prog Q s h₀ fa cd mg mb u p loose mean fr₁ fr hs' F X Tp N tl O kk
  have hta' : h₀.IsTuple 313 ([.ref 311, .ref 312] : List Value).toArray := ⟨_, X _ _ (by k_is), rfl, _, rfl⟩
  generalize hb : lawSt 1 = blk
  conv at hb => lhs; whnf
  conv at hs' => rhs; whnf
  subst hb
  subst hs'
  try dsimp only
  ktr_unf
  (rename Fr h₀ L _ _ => FZ; rename News h₀ L _ _ => NZ)
  exact kk _ _ _ _ _ _ tl (fr_binds FZ (ps := b1 NL (.ref ta)) (by exact ⟨rfl, rfl, trivial⟩)) NZ O ⟨rfl, rfl⟩
end
section
example : True := by w_top off; trivial
theorem st_2 {w : World} {own : Led} {L NL : Addr} {TT : Value} :
    BlkCE w L (lawSt 2) (b1 NL TT) own (fun b' own' => ∃ S D Ls T E Lt P W r q nP nW nr nq, b' = bLaw P W NL TT ∧ Kq own own' ∧ SetAt own' S D Ls [] ∧ SetAt own' T E Lt [] ∧ (P, listOf [.ref S, .ref T].toArray nP) ∈ own' ∧ (W, listOf [.ref r, .ref q].toArray nW) ∈ own' ∧ (r, listOf ([] : List Value).toArray nr) ∈ own' ∧ (q, listOf ([] : List Value).toArray nq) ∈ own' ∧
      New own S ∧ New own D ∧ New own Ls ∧ New own T ∧ New own E ∧ New own Lt ∧ New own P ∧ New own W ∧ D ≠ E ∧ Ls ≠ Lt ∧ P ≠ Ls ∧ P ≠ Lt ∧ r ≠ Ls ∧ r ≠ Lt ∧ q ≠ Ls ∧ q ≠ Lt ∧ r ≠ P ∧ q ≠ P ∧ W ≠ Ls ∧ W ≠ Lt ∧ W ≠ P ∧ W ≠ r ∧ W ≠ q ∧ New own r ∧ New own q) := by
  intro sc prog Q s h₀ fa cd mg mb u p loose mean fr₁ fr hs' F X Tp N tl O kk
  generalize hb : lawSt 2 = blk
  conv at hb => lhs; whnf
  conv at hs' => rhs; whnf
  subst hb
  subst hs'
  try dsimp only
  ktr_unf
  unfold Hold
  (rename Fr h₀ L _ _ => F1; rename News h₀ L _ _ => N1)
  refine Con.use c_new (Fits.of (by decide) (by decide)) rfl rfl F1 X Tp N1 Cut.base tl O ?_
  rintro v1 h2 tk2 own2 fr2 t2 F2 N2 O2 ⟨⟨S1, D1, L1, rfl, s1, kq1, nS, nD, nL⟩⟩
  clear F1 N1
  ktr_unf
  unfold Hold
  (rename Fr h₀ L _ _ => F1; rename News h₀ L _ _ => N1)
  refine Con.use c_new (Fits.of (by decide) (by decide)) rfl rfl F1 X Tp N1 Cut.base t2 O2 ?_
  rintro v3 h3 tk3 own3 fr3 t3 F3 N3 O3 ⟨⟨S2, D2, L2, rfl, s2, kq2, nS2, nD2, nL2⟩⟩
  clear F1 N1
  ktr_unf
  rename_i DP hP nP OP DR hR nR OR DQ hQ nQ OQ DW hW nW OW DT hT lT h5 h6 h7 FZ NZ
  obtain ⟨_, ⟨_, _, cD⟩, ⟨_, cL⟩, _, _, _, _⟩ := id s1
  obtain ⟨aS, ⟨_, _, aD⟩, ⟨_, aL⟩, _, a1, a2, a3⟩ := id (s1.toQ kq2)
  obtain ⟨bS, ⟨_, _, bD⟩, ⟨_, bL⟩, _, b1', b2, b3⟩ := id s2
  have k4 : ∀ {x1 x2 x3 x4 : Addr × Obj}, Kq own3 (x1 :: x2 :: x3 :: x4 :: own3) := fun p hp => .tail _ (.tail _ (.tail _ (.tail _ hp)))
  exact kk _ _ _ _ _ _ t3 (fr_binds FZ (ps := bLaw DP DW NL TT) (by exact ⟨rfl, rfl, rfl, rfl, trivial⟩)) (fun p hp => NZ p (.tail _ hp)) OW
    ⟨S1, D1, L1, S2, D2, L2, DP, DW, DR, DQ, _, _, _, _, rfl, fun p hp => k4 p (kq2 p (kq1 p hp)), (s1.toQ kq2).toQ k4, s2.toQ k4, .tail _ (.tail _ (.tail _ (.head _))), .head _, .tail _ (.tail _ (.head _)), .tail _ (.head _),
      nS, nD, nL, nS2.below kq1, nD2.below kq1, nL2.below kq1, nP.below (kq1.trans kq2), nW.below (fun p hp => .tail _ (.tail _ (.tail _ (kq2 p (kq1 p hp))))), nD2 _ cD, nL2 _ cL, ne_flip (nP _ aL), ne_flip (nP _ bL), ne_flip (nR _ (.tail _ aL)), ne_flip (nR _ (.tail _ bL)), ne_flip (nQ _ (.tail _ (.tail _ aL))), ne_flip (nQ _ (.tail _ (.tail _ bL))), ne_flip (nR _ (.head _)), ne_flip (nQ _ (.tail _ (.head _))),
      ne_flip (nW _ (.tail _ (.tail _ (.tail _ aL)))), ne_flip (nW _ (.tail _ (.tail _ (.tail _ bL)))), ne_flip (nW _ (.tail _ (.tail _ (.head _)))), ne_flip (nW _ (.tail _ (.head _))), ne_flip (nW _ (.head _)), nR.below (fun p hp => .tail _ (kq2 p (kq1 p hp))), nQ.below (fun p hp => .tail _ (.tail _ (kq2 p (kq1 p hp))))⟩
end
section
example : True := by w_top off; trivial
/-- what holds between the turns of the main loop -/
def LInv (d : List Value) (P W S D T E : Addr) (keep own : Led) : Prop :=
  ∃ (Ls Lt r q : Addr) (xs ys : List Value) (nP nW nr nq : Nat), SetAt own S D Ls xs ∧ SetAt own T E Lt ys ∧ (P, listOf [.ref S, .ref T].toArray nP) ∈ own ∧ (W, listOf [.ref r, .ref q].toArray nW) ∈ own ∧ (r, listOf xs.toArray nr) ∈ own ∧ (q, listOf ys.toArray nq) ∈ own ∧ Good d xs ∧ Good d ys ∧ Kq keep own ∧
    D ≠ E ∧ Ls ≠ Lt ∧ P ≠ Ls ∧ P ≠ Lt ∧ r ≠ Ls ∧ r ≠ Lt ∧ q ≠ Ls ∧ q ≠ Lt ∧ r ≠ P ∧ q ≠ P ∧ W ≠ Ls ∧ W ≠ Lt ∧ W ≠ P ∧ W ≠ r ∧ W ≠ q ∧ (∀ p ∈ keep, p.1 ≠ D ∧ p.1 ≠ E ∧ p.1 ≠ Ls ∧ p.1 ≠ Lt ∧ p.1 ≠ P ∧ p.1 ≠ W ∧ p.1 ≠ r ∧ p.1 ≠ q)
/-- kinds lie apart -/
theorem kinds {h₀ h : Heap} {L : Addr} {own : Led} {S D T E Ls Lt l : Addr} {xs ys zs : List Value} {n : Nat} (N : News h₀ L h own) (s1 : SetAt own S D Ls xs) (s2 : SetAt own T E Lt ys) (hl : (l, listOf zs.toArray n) ∈ own) :
    (S ≠ l ∧ D ≠ l ∧ T ≠ l ∧ E ≠ l) ∧ (S ≠ D ∧ S ≠ E ∧ T ≠ D ∧ T ≠ E) := by
  obtain ⟨hS, ⟨_, _, hD⟩, _, _, _, _, _⟩ := s1
  obtain ⟨hT, ⟨_, _, hE⟩, _, _, _, _, _⟩ := s2
  refine ⟨⟨ne_of_objs N hS hl fun q => ?_, ne_of_objs N hD hl fun q => ?_, ne_of_objs N hT hl fun q => ?_, ne_of_objs N hE hl fun q => ?_⟩, ne_of_objs N hS hD fun q => ?_, ne_of_objs N hS hE fun q => ?_, ne_of_objs N hT hD fun q => ?_, ne_of_objs N hT hE fun q => ?_⟩ <;> (have z := congrArg Obj.data q; cases z)
theorem setAt_F {own : Led} {S D Ls I : Addr} {xs : List Value} (h : SetAt own S D Ls xs) (h1 : S ≠ I) (h2 : D ≠ I) (h3 : Ls ≠ I) : SetAt (own.filter fun p => decide (p.1 ≠ I)) S D Ls xs := SetAt.toF h h1 h2 h3
theorem LInv.toF {d : List Value} {P W S D T E I : Addr} {oI : Obj} {keep own : Led} (iv : LInv d P W S D T E ((I, oI) :: keep) own) (hS : S ≠ I) (hT : T ≠ I) (nk' : New keep I) : LInv d P W S D T E keep (own.filter fun p => decide (p.1 ≠ I)) := by
  obtain ⟨Ls, Lt, r, q, xs, ys, nP, nW, nr, nq, s1, s2, hP, hW, hr, hq, gx, gy, kq, c1, c2, c3, c4, c5, c6, c7, c8, c9, c10, c11, c12, c13, c14, c15, nk⟩ := iv
  obtain ⟨i1, i2, i3, i4, i5, i6, i7, i8⟩ := nk _ (.head _)
  have f : ∀ {a : Addr} {o : Obj}, (a, o) ∈ own → I ≠ a → (a, o) ∈ own.filter fun p => decide (p.1 ≠ I) := fun h n => List.mem_filter.mpr ⟨h, by simpa using ne_flip n⟩
  exact ⟨Ls, Lt, r, q, xs, ys, nP, nW, nr, nq, setAt_F s1 hS (ne_flip i1) (ne_flip i3), setAt_F s2 hT (ne_flip i2) (ne_flip i4), f hP i5, f hW i6, f hr i7, f hq i8, gx, gy, fun p hp => List.mem_filter.mpr ⟨kq p (.tail _ hp), by simpa using nk' p hp⟩, c1, c2, c3, c4, c5, c6, c7, c8, c9, c10, c11, c12, c13, c14, c15, fun p hp => nk p (.tail _ hp)⟩
theorem LInv.cons {d : List Value} {P W S D T E I : Addr} {oI : Obj} {keep own : Led} (iv : LInv d P W S D T E keep own) (nI : New own I) : LInv d P W S D T E ((I, oI) :: keep) ((I, oI) :: own) := by
  obtain ⟨Ls, Lt, r, q, xs, ys, nP, nW, nr, nq, s1, s2, hP, hW, hr, hq, gx, gy, kq, c1, c2, c3, c4, c5, c6, c7, c8, c9, c10, c11, c12, c13, c14, c15, nk⟩ := iv
  obtain ⟨_, ⟨_, _, hD⟩, ⟨_, hL⟩, _, _, _, _⟩ := id s1
  obtain ⟨_, ⟨_, _, hD2⟩, ⟨_, hL2⟩, _, _, _, _⟩ := id s2
  refine ⟨Ls, Lt, r, q, xs, ys, nP, nW, nr, nq, s1.toQ (fun p hp => .tail _ hp), s2.toQ (fun p hp => .tail _ hp), .tail _ hP, .tail _ hW, .tail _ hr, .tail _ hq, gx, gy, fun p hp => ?_, c1, c2, c3, c4, c5, c6, c7, c8, c9, c10, c11, c12, c13, c14, c15, fun p hp => ?_⟩
  · rcases List.mem_cons.mp hp with e | hp
    · exact e ▸ .head _
    · exact .tail _ (kq p hp)
  · rcases List.mem_cons.mp hp with e | hp
    · rw [e]
      exact ⟨ne_flip (nI _ hD), ne_flip (nI _ hD2), ne_flip (nI _ hL), ne_flip (nI _ hL2), ne_flip (nI _ hP), ne_flip (nI _ hW), ne_flip (nI _ hr), ne_flip (nI _ hq)⟩
    · exact nk p hp
end
section
example : True := by w_top off; trivial
theorem Blk.mono {w : World} {blk : List Stmt} {b : List (Str × Value)} {own : Led} {R R' : List (Str × Value) → Led → Prop} (c : Blk w blk b own R) (h : ∀ b' o, R b' o → R' b' o) : Blk w blk b own R' :=
  fun hs F X T N t O k => c hs F X T N t O fun h' tk' own' fr' b' u' T' F' N' O' r => k h' tk' own' fr' b' u' T' F' N' O' (h b' own' r)
theorem new_or {own : Led} {a b c : Addr} {o : Obj} (h : a = b ∨ New own a) (hc : (c, o) ∈ own) (n : b ≠ c) : a ≠ c := h.elim (fun e => e ▸ n) fun q e => q _ hc e.symm
theorem turn_inv {w : World} {d : List Value} {own keep : Led} {P W NL ta S D T E : Addr} {x : Value} {nums : List Value} {i jt : Nat} {nN : Nat} {n : Int} {tn tk : Tok} {h₀ h : Heap} {L : Addr}
    (dom : Dom d) (htc : ∀ y ∈ d, Tc y) (hdl : d.length ≤ 8) (iv : LInv d P W S D T E keep own) (N : News h₀ L h own)
    (hta : ∀ h₀ : Heap, (Mine.hd.heap_39 w.params).In h₀ → h₀.IsTuple ta d.toArray) (hNL : (NL, listOf nums.toArray nN) ∈ keep) (hnl : nums.length ≤ 1000) (hni : 2 + i < nums.length) (hnv : nums.getD (2 + i) .none = .int n tn)
    (hjt : Int.fmod (Int.fdiv n 24 + (2 + (i : Int))) 8 = (jt : Int)) (hj8 : jt < d.length) (hx : d.getD jt .none = x) :
    Blk w loopBody (bTurn P W NL (.ref ta) i tk) own (fun b' own' => b' = bLaw P W NL (.ref ta) ∧ LInv d P W S D T E keep own') := by
  obtain ⟨Ls, Lt, r, q, xs, ys, nP, nW, nr, nq, s1, s2, hP, hW, hr, hq, gx, gy, kq, c1, c2, c3, c4, c5, c6, c7, c8, c9, c10, c11, c12, c13, c14, c15, nk⟩ := iv
  obtain ⟨hS, ⟨_, _, hD⟩, ⟨_, hL⟩, _, m1, m2, m3⟩ := id s1
  obtain ⟨hS2, ⟨_, _, hD2⟩, ⟨_, hL2⟩, _, m4, m5, m6⟩ := id s2
  obtain ⟨⟨a1, a2, a3, a4⟩, a5, a6, a7, a8⟩ := kinds N s1 s2 hL
  obtain ⟨⟨e1, e2, e3, e4⟩, _⟩ := kinds N s1 s2 hL2
  obtain ⟨⟨p1, p2, p3, p4⟩, _⟩ := kinds N s1 s2 hP
  obtain ⟨⟨w1, w2, w3, w4⟩, _⟩ := kinds N s1 s2 hW
  obtain ⟨⟨r1, r2, r3, r4⟩, _⟩ := kinds N s1 s2 hr
  obtain ⟨⟨q1, q2, q3, q4⟩, _⟩ := kinds N s1 s2 hq
  obtain ⟨k, hkw, hk2⟩ := fmod_nat (Int.fdiv n 12) 2 (by decide)
  change Int.fmod (Int.fdiv n 12) 2 = (k : Int) at hkw
  obtain rfl | rfl : k = 0 ∨ k = 1 := by omega
  · refine Blk.mono (turn_blk (k := 0) (k' := 1) (pv := [.ref S, .ref T]) (wv := [.ref r, .ref q]) (S := S) (D := D) (Ls := Ls) (T := T) (E := E) (Lt := Lt) (r := r) (q := q) (xs := xs) (ys := ys)
      ⟨dom, htc, hdl, s1, s2, hr, hq, hP, by simp, by simp, by simp, rfl, rfl, rfl, gx, gy, ⟨a3, a4, ne_flip c2, c5, c7, c3⟩, ⟨a7, ne_flip c1, ne_flip e2, ne_flip r2, ne_flip q2, ne_flip p2⟩, ⟨p1, p2, p3, p4, ne_flip c4, c9, c10⟩⟩
      (.inl ⟨rfl, rfl, rfl, rfl⟩) hta hW (kq _ hNL) hnl hni hnv hkw hjt hj8 hx ⟨w1, w2, ne_flip c11, w3, w4, ne_flip c12, ne_flip c14, ne_flip c15, ne_flip c13⟩) fun b' o R => ?_
    obtain ⟨rfl, zs, Ls', r', nr', np', nW', nq', t1, t2, hr', hq', hP', hW', kp, oL, oR, nRL, gz⟩ := R
    refine ⟨rfl, Ls', Lt, r', q, zs, ys, np', nW', nr', nq', t1, t2, hP', hW', hr', hq', gz, gy, fun p hp => ?_, c1, new_or oL hL2 c2, ne_flip (new_or oL hP (ne_flip c3)), c4, nRL, new_or oR hL2 c6, ne_flip (new_or oL hq (ne_flip c7)), c8, new_or oR hP c9, c10, ne_flip (new_or oL hW (ne_flip c11)), c12, c13, ne_flip (new_or oR hW (ne_flip c14)), c15, fun p hp => ?_⟩
    · obtain ⟨z1, z2, z3, z4, z5, z6, z7, z8⟩ := nk p hp
      exact kp p (kq p hp) z1 z3 z5 z6
    · obtain ⟨z1, z2, z3, z4, z5, z6, z7, z8⟩ := nk p hp
      exact ⟨z1, z2, ne_flip (new_or (o := p.2) oL (kq p hp) (ne_flip z3)), z4, z5, z6, ne_flip (new_or (o := p.2) oR (kq p hp) (ne_flip z7)), z8⟩
  · refine Blk.mono (turn_blk (k := 1) (k' := 0) (pv := [.ref S, .ref T]) (wv := [.ref r, .ref q]) (S := T) (D := E) (Ls := Lt) (T := S) (E := D) (Lt := Ls) (r := q) (q := r) (xs := ys) (ys := xs)
      ⟨dom, htc, hdl, s2, s1, hq, hr, hP, by simp, by simp, by simp, rfl, rfl, rfl, gy, gx, ⟨e1, e2, c2, c8, c6, c4⟩, ⟨a6, c1, ne_flip a4, ne_flip q4, ne_flip r4, ne_flip p4⟩, ⟨p3, p4, p1, p2, ne_flip c3, c10, c9⟩⟩
      (.inr ⟨rfl, rfl, rfl, rfl⟩) hta hW (kq _ hNL) hnl hni hnv hkw hjt hj8 hx ⟨w3, w4, ne_flip c12, w1, w2, ne_flip c11, ne_flip c15, ne_flip c14, ne_flip c13⟩) fun b' o R => ?_
    obtain ⟨rfl, zs, Ls', r', nr', np', nW', nq', t1, t2, hr', hq', hP', hW', kp, oL, oR, nRL, gz⟩ := R
    refine ⟨rfl, Ls, Ls', r, r', xs, zs, np', nW', nq', nr', t2, t1, hP', hW', hq', hr', gx, gz, fun p hp => ?_, c1, ne_flip (new_or oL hL (ne_flip c2)), c3, ne_flip (new_or oL hP (ne_flip c4)), c5, ne_flip (new_or oL hr (ne_flip c6)), new_or oR hL c7, nRL, c9, new_or oR hP c10, c11, ne_flip (new_or oL hW (ne_flip c12)), c13, c14, ne_flip (new_or oR hW (ne_flip c15)), fun p hp => ?_⟩
    · obtain ⟨z1, z2, z3, z4, z5, z6, z7, z8⟩ := nk p hp
      exact kp p (kq p hp) z2 z4 z5 z6
    · obtain ⟨z1, z2, z3, z4, z5, z6, z7, z8⟩ := nk p hp
      exact ⟨z1, z2, z3, ne_flip (new_or (o := p.2) oL (kq p hp) (ne_flip z4)), z5, z6, z7, ne_flip (new_or (o := p.2) oR (kq p hp) (ne_flip z8))⟩
end
local macro_rules | `(tactic| walk_at "none") => `(tactic| fail)
section
example : True := by w_top off; trivial
theorem LInv.ne {d : List Value} {P W S D T E I : Addr} {keep own : Led} (iv : LInv d P W S D T E keep own) (nI : New own I) : S ≠ I ∧ T ≠ I := by
  obtain ⟨Ls, Lt, r, q, xs, ys, nP, nW, nr, nq, s1, s2, _⟩ := iv
  exact ⟨nI _ s1.hS, nI _ s2.hS⟩
theorem LInv.keeps {d : List Value} {P W S D T E : Addr} {keep own : Led} (iv : LInv d P W S D T E keep own) : Kq keep own := by
  obtain ⟨Ls, Lt, r, q, xs, ys, nP, nW, nr, nq, s1, s2, hP, hW, hr, hq, gx, gy, kq, _⟩ := iv
  exact kq
local macro_rules | `(tactic| walk_at "exec For Name Call cons nil") => `(tactic| refine Hold.of ?_)
local macro_rules | `(tactic| walk_at "execs cons") => `(tactic| refine Hold.of ?_)
theorem st_3 {w : World} {d : List Value} {own keep : Led} {L P W NL ta S D T E : Addr} {nums : List Value} {nN : Nat}
    (dom : Dom d) (htc : ∀ y ∈ d, Tc y) (hdl : d.length = 8) (iv : LInv d P W S D T E keep own)
    (hta : ∀ h₀ : Heap, (Mine.hd.heap_39 w.params).In h₀ → h₀.IsTuple ta d.toArray) (hNL : (NL, listOf nums.toArray nN) ∈ keep) (hnl : nums.length = 14) (hnv : ∀ j, j < 14 → ∃ n t, nums.getD j .none = .int n t) :
    BlkCE w L (lawSt 3) (bLaw P W NL (.ref ta)) own (fun b' own' => b' = bLaw P W NL (.ref ta) ∧ LInv d P W S D T E keep own') := by
  intro sc prog Q s h₀ fa cd mg mb u p loose mean fr₁ fr hs' F X Tp N tl O kk
  have hs2 := hs'
  generalize hb : lawSt 3 = blk
  conv at hb => lhs; whnf
  conv at hs' => rhs; whnf
  subst hb
  subst hs'
  try dsimp only
  refine for_range (h₀ := h₀) (L := L) (outer := []) (fr₁ := fr₁) (a := 2) (b := 14) (nn := 12) (fun i m own₁ => LInv d P W S D T E keep own₁ ∧ ∃ u, m = kb (bLaw P W NL (.ref ta)) u) rfl (by decide) (by decide) ?_ ?_ ?_
  · ktr_unf
    unfold Hold
    (rename IsRange _ _ _ _ _ _ _ _ => hR; rename Fr h₀ L _ _ => F1; rename News h₀ L _ _ => N1)
    exact ⟨_, _, _, _, own, fr, rfl, rfl, F1, N1, tl, O, ⟨_, _, _, hR⟩, iv, u, rfl⟩
  · rintro I i v m1 own1 fr2 oI h tk hi ⟨t, rfl⟩ ⟨iv1, u1, rfl⟩ nI t2 O2 F2 N2
    obtain ⟨n, tn, hn⟩ := hnv (2 + i) (by omega)
    obtain ⟨jt, hjt, hj8⟩ := fmod_nat (Int.fdiv n 24 + (2 + (i : Int))) 8 (by decide)
    change Int.fmod (Int.fdiv n 24 + (2 + (i : Int))) 8 = (jt : Int) at hjt
    have nK : New keep I := fun p hp => nI p (iv1.keeps p hp)
    obtain ⟨x1, x2⟩ := iv1.ne nI
    ktr_unf
    unfold Hold
    (rename Fr h₀ L _ _ => F3; rename News h₀ L _ _ => N3)
    have NI : News h₀ L _ ((I, oI) :: own1) := fun p hp => N3 p (by
      rcases List.mem_cons.mp hp with e | hp
      · exact e ▸ .head _
      · exact .tail _ (List.mem_append_left _ hp))
    refine Blk.use (turn_inv dom htc (by omega) (iv1.cons nI) NI hta (.tail _ hNL) (by omega) (by omega) hn hjt (by omega) rfl) (by rfl) hs2 F3 (by exact ⟨rfl, rfl, rfl, rfl, rfl, trivial⟩) X Tp N3 Cut.b1 t2 O2 fun h3 tk3 own3 fr3 b3 u3 T3 F4 N4 O4 R => ?_
    obtain ⟨rfl, iv3⟩ := R
    unfold TurnEndG
    exact ⟨h3, _, _, own3, fr3, rfl, F4, N4, T3, O4, iv3.keeps _ (.head _), fun p hp => (by cases hp), iv3.toF x1 x2 nK, u3, rfl⟩
  · rintro m1 own1 fr2 h tk ⟨iv1, u1, rfl⟩ t2 O2 F2 N2
    exact kk _ _ _ _ _ _ t2 F2 N2 O2 ⟨rfl, iv1⟩
end
local macro_rules | `(tactic| walk_at "none") => `(tactic| fail)
local macro_rules | `(tactic| walk_at "none") => `(tactic| fail)
local macro_rules | `(tactic| walk_at "none") => `(tactic| fail)
section
example : True := by w_top off; trivial
theorem Eqv.upQ {own own' : Led} {v u : Value} (h : Eqv own v u) (k : Kq own own') : Eqv own' v u := by
  cases h with
  | same v => exact .same _
  | th a b c => exact .th a b c
  | lst a b c d e => exact .lst (k _ a) (k _ b) c d e
theorem Same.upQ {own own' : Led} {a b : Addr} (h : Same own a b) (k : Kq own own') : Same own' a b := by
  obtain ⟨vs, us, n, m, ha, hb, hl, he⟩ := h
  exact ⟨vs, us, n, m, k _ ha, k _ hb, hl, fun j hj => (he j hj).upQ k⟩
theorem tcA : ∀ y ∈ dA, Tc y := by
  intro y hy
  simp only [dA, List.mem_cons, List.not_mem_nil, or_false] at hy
  rcases hy with rfl | rfl | rfl | rfl | rfl | rfl | rfl | rfl <;> exact .int (by decide) (by decide)
theorem tcB : ∀ y ∈ dB, Tc y := by
  intro y hy
  simp only [dB, List.mem_cons, List.not_mem_nil, or_false] at hy
  rcases hy with rfl | rfl | rfl | rfl | rfl | rfl | rfl | rfl
  · exact .int (by decide) (by decide)
  · exact .int (by decide) (by decide)
  · exact .int (by decide) (by decide)
  · exact .a
  · exact .b
  · exact .ba
  · exact .bb
  · exact .none
theorem tupA {w : World} : ∀ h₀ : Heap, (Mine.hd.heap_39 w.params).In h₀ → h₀.IsTuple 311 dA.toArray := fun h₀ X => ⟨_, X _ _ (by k_is), rfl, _, rfl⟩
theorem tupB {w : World} : ∀ h₀ : Heap, (Mine.hd.heap_39 w.params).In h₀ → h₀.IsTuple 312 dB.toArray := fun h₀ X => ⟨_, X _ _ (by k_is), rfl, _, rfl⟩
end
section
example : True := by w_top off; trivial
local macro_rules | `(tactic| walk_at "compareOp Eq ref ref") => `(tactic| refine Hold.of ?_)
theorem st_10 {w : World} {d : List Value} {own : Led} {L S D Ls T E Lt r q : Addr} {xs ys : List Value} {nr nq : Nat} {o1 oa : Obj} (dom : Dom d) (htc : ∀ y ∈ d, Tc y) (hdl : d.length ≤ 8) (s1 : SetAt own S D Ls xs) (s2 : SetAt own T E Lt ys) (hr : (r, listOf xs.toArray nr) ∈ own) (hq : (q, listOf ys.toArray nq) ∈ own) (gx : Good d xs) (gy : Good d ys)
    (hc1 : (L + 1 + 1, o1) ∈ own) (e1 : o1.data = .cell (some (.ref S))) (hca : (L + 1 + 1 + 1, oa) ∈ own) (ea : oa.data = .cell (some (.ref r)))
    {sc : Scope} {prog : Program} {Q : Flow → Shared → Prop} {s : Shared} {h₀ : Heap} {fa : Addr} {cd : Value} {mg mb u : Str → Option Value} {p : Program} {loose : List Str} {mean : ExcName → Option Value} {fr₁ fr : Led}
    (hs' : sc = lawScope) (F : Fr h₀ L s.heap (kb [("two", .ref T), ("b", .ref q)] u)) (X : (Mine.hd.heap_39 w.params).In h₀) (Tp : Top p loose mean mg mb h₀) (N : News h₀ L s.heap (own ++ fr)) (tl : Tl [] fr₁ fr)
    (kk : ∀ h' tk' fr' own', Tl [] fr₁ fr' → Kq own own' → (∀ b o, h₀.get? b = some o → h'.get? b = some o) → News h₀ L h' (own' ++ fr') → Q (.ret (.bool true)) { s with heap := h', toks := tk' }) :
    wpAny (model prog w) (AC 302 7 [envOfC "law" sc L fa cd]) (exec (lawSt 10) (envOfC "law" sc L fa cd)) Q (fun _ _ => False) s := by
  have hT : ∀ y ∈ d, Th y := fun y hy => (htc y hy).th
  have gxT := mem_th hT gx.mem
  have gyT := mem_th hT gy.mem
  have xl := good_len dom gx hdl
  have yl := good_len dom gy hdl
  have O : Off own [] := off_nil
  obtain ⟨hS, ⟨hsh, tk, hD⟩, ⟨nL, hL⟩, hth, m1, m2, m3⟩ := id s1
  obtain ⟨hS2, ⟨hsh2, tk2, hD2⟩, ⟨nL2, hL2⟩, hth2, m4, m5, m6⟩ := id s2
  generalize hb : lawSt 10 = blk
  conv at hb => lhs; whnf
  conv at hs' => rhs; whnf
  subst hb
  subst hs'
  try dsimp only
  ktr_unf
  unfold Hold
  (rename News h₀ L _ _ => NZ; rename Tl [] _ _ => TZ; rename Fr h₀ L _ _ => FZ)
  refine eq_same NZ Cut.b1 ⟨_, _, _, _, by kst_mem, by kst_mem, by rfl, fun j hj => ?_⟩ (Nat.le_of_ble_eq_true rfl) (kk _ _ _ (_ :: _) TZ (fun p hp => by kst_mem) FZ.keep NZ)
  rcases j with _ | _ | _ | _ | j
  · exact Eqv.row (by kst_mem) (by kst_mem) gxT
  · exact Eqv.row (by kst_mem) (by kst_mem) gyT
  · exact Eqv.th (.int _ _) (.int _ _) (beq_self_eq_true _)
  · exact Eqv.th (.int _ _) (.int _ _) (beq_self_eq_true _)
  · exact absurd hj (by simp)
end
section
example : True := by w_top off; trivial
/-- the heap and the marks alone have turned -/
def Since (s₀ s : Shared) : Prop := ∃ h tk, s = { s₀ with heap := h, toks := tk }
theorem Since.refl (s : Shared) : Since s s := ⟨s.heap, s.toks, rfl⟩
theorem Since.trans {a b c : Shared} (h : Since a b) (k : Since b c) : Since a c := by
  obtain ⟨h1, t1, rfl⟩ := h
  obtain ⟨h2, t2, rfl⟩ := k
  exact ⟨h2, t2, rfl⟩
theorem Since.gens {a b : Shared} (h : Since a b) : b.gens = a.gens := by obtain ⟨_, _, rfl⟩ := h; rfl
theorem Since.os {a b : Shared} (h : Since a b) : b.os = a.os := by obtain ⟨_, _, rfl⟩ := h; rfl

def gProto (n₀ : Nat) (f : Nat → Bool) (J : Nat → Heap → Prop) : Protocol := fun m s₀ v s kap =>
  v = .bool (f (n₀ - 1 - m)) ∧ Since s₀ s ∧ J (n₀ - m) s.heap ∧ ∀ s'' : Shared, J (n₀ - m) s''.heap → kap (.send .none) s''
def gP (Jd : Heap → Prop) (n : Nat) (s₀ s₁ : Shared) : Prop := n = 0 ∧ Since s₀ s₁ ∧ Jd s₁.heap
def gEnd (Jd : Heap → Prop) : GenEnd := fun n s₀ r s₁ => r = .ok .next ∧ gP Jd n s₀ s₁

/-- what a generator expression's turn does, by an invariant over the heap -/
structure GTurn (prog : Program) (w : World) (A : Around) (iter : Expr) (scope : Scope) (pos : PySem.Pos) (I : Addr) (cenv : Env) (elt : Expr) (x : Str) (px : PySem.Pos) (n₀ : Nat) (f : Nat → Bool) (J : Nat → Heap → Prop) (Jd : Heap → Prop) : Prop where
  start : ∀ (s : Shared) (Q E : Value → Shared → Prop), J 0 s.heap → Q (.ref I) s → wpAny (model prog w) (A.over (.compStart (.GeneratorExp elt [⟨.Name x px, iter, [], 0⟩] scope pos) 0 (.ref I) .none cenv) []) (pyIter (.ref I)) Q E s
  item : ∀ (i : Nat) (s : Shared) (E : Value → Shared → Prop), i < n₀ → J i s.heap → wpAny (model prog w) (A.over (.compLoop (.GeneratorExp elt [⟨.Name x px, iter, [], 0⟩] scope pos) 0 (.ref I) .none cenv) []) (pyNext (.ref I))
    (fun o s₁ => ∃ v, o = some v ∧ wpAny (model prog w) (A.over (.compLoop (.GeneratorExp elt [⟨.Name x px, iter, [], 0⟩] scope pos) 0 (.ref I) .none cenv) []) (assign (.Name x px) cenv v)
      (fun _ s₂ => wpAny (model prog w) (A.over (.compLoop (.GeneratorExp elt [⟨.Name x px, iter, [], 0⟩] scope pos) 0 (.ref I) .none cenv) []) (eval elt cenv)
        (fun y s₃ => y = .bool (f i) ∧ Since s s₃ ∧ J (i + 1) s₃.heap) E s₂) E s₁) E s
  done : ∀ (s : Shared) (E : Value → Shared → Prop), J n₀ s.heap → wpAny (model prog w) (A.over (.compLoop (.GeneratorExp elt [⟨.Name x px, iter, [], 0⟩] scope pos) 0 (.ref I) .none cenv) []) (pyNext (.ref I)) (fun o s₁ => o = none ∧ Since s s₁ ∧ Jd s₁.heap) E s

section
variable {prog : Program} {w : World} {A : Around} {iter elt : Expr} {scope : Scope} {pos px : PySem.Pos} {I a : Addr} {cenv : Env} {x : Str} {n₀ g : Nat} {f : Nat → Bool} {J : Nat → Heap → Prop} {Jd : Heap → Prop}

theorem seg_turns (hco : cenv.scope.isCoroutine = false) (G : GTurn prog w A iter scope pos I cenv elt x px n₀ f J Jd) :
    ∀ (k i : Nat) (s₀ s : Shared), n₀ - i = k → i ≤ n₀ → Since s₀ s → J i s.heap →
      Seg (model prog w) A (gEnd Jd) (gProto n₀ f J) k s₀ (.compLoop (.GeneratorExp elt [⟨.Name x px, iter, [], 0⟩] scope pos) 0 (.ref I) .none cenv)
        ((model prog w).den (.compLoop (.GeneratorExp elt [⟨.Name x px, iter, [], 0⟩] scope pos) 0 (.ref I) .none cenv)) [] s := by
  intro k
  induction k with
  | zero =>
    intro i s₀ s hk hi hsi hJ
    obtain rfl : i = n₀ := by omega
    show Seg _ A _ _ _ s₀ _ ((compTurn (.GeneratorExp elt [⟨.Name x px, iter, [], 0⟩] scope pos) 0 (.ref I) .none cenv).onRaise («leaving» cenv)) [] s
    rw [compTurn_gen, Sem.onRaise_eq_wrap]
    refine seg_bind_wrap (wpAny_standAt ?_)
    refine seg_bind_wrap (wpAny_mono (G.done s _ hJ) (fun o s₁ h => ?_) fun _ _ e => e)
    obtain ⟨rfl, h1, h2⟩ := h
    exact seg_end (.ok .next) ⟨rfl, rfl, hsi.trans h1, h2⟩
  | succ k ih =>
    intro i s₀ s hk hi hsi hJ
    have hlt : i < n₀ := by omega
    show Seg _ A _ _ _ s₀ _ ((compTurn (.GeneratorExp elt [⟨.Name x px, iter, [], 0⟩] scope pos) 0 (.ref I) .none cenv).onRaise («leaving» cenv)) [] s
    rw [compTurn_gen, Sem.onRaise_eq_wrap]
    refine seg_bind_wrap (wpAny_standAt ?_)
    refine seg_bind_wrap (wpAny_mono (G.item i s _ hlt hJ) (fun o s₁ h => ?_) fun _ _ e => e)
    obtain ⟨v, rfl, h⟩ := h
    refine seg_bind_wrap (wpAny_of_eq (rfl : letOwnedTupleGo (.Name x px) (.ref I) v = pure ()) ?_)
    refine seg_bind_wrap (wpAny_mono h (fun _ s₂ h2 => ?_) fun _ _ e => e)
    refine seg_bind_wrap (wpAny_of_eq (a := true) rfl ?_)
    simp only [if_true]
    have hy : ∀ v, yieldOut cenv v = yieldValue v := fun v => by simp only [yieldOut, hco, Bool.false_eq_true, if_false]
    simp only [hy]
    rw [Sem.bind_eq_wrap', Sem.bind_eq_wrap', Sem.wrap_wrap, Sem.wrap_wrap]
    refine seg_wrap (wpAny_mono h2 (fun y s₃ h3 => ?_) fun _ _ e => e)
    obtain ⟨rfl, h4, h5⟩ := h3
    have e1 : n₀ - 1 - k = i := by omega
    have e2 : n₀ - k = i + 1 := by omega
    refine seg_at (seg_yield rfl rfl rfl ⟨by rw [e1], hsi.trans h4, by rw [e2]; exact h5, fun s'' hJ' => ?_⟩)
    rw [e2] at hJ'
    exact seg_again rfl (ih (i + 1) s'' s'' (by omega) hlt (Since.refl _) hJ')

theorem seg_first (hco : cenv.scope.isCoroutine = false) (G : GTurn prog w A iter scope pos I cenv elt x px n₀ f J Jd) (s : Shared) (hJ : J 0 s.heap) :
    Seg (model prog w) A (gEnd Jd) (gProto n₀ f J) n₀ s (.compStart (.GeneratorExp elt [⟨.Name x px, iter, [], 0⟩] scope pos) 0 (.ref I) .none cenv)
      ((model prog w).den (.compStart (.GeneratorExp elt [⟨.Name x px, iter, [], 0⟩] scope pos) 0 (.ref I) .none cenv)) [] s := by
  have loop := seg_turns hco G n₀ 0 s s (Nat.sub_zero _) (Nat.zero_le _) (Since.refl _) hJ
  show Seg _ A _ _ _ s _ ((compStart (.GeneratorExp elt [⟨.Name x px, iter, [], 0⟩] scope pos) 0 (.ref I) .none cenv).onRaise («leaving» cenv)) [] s
  unfold compStart
  rw [Sem.onRaise_eq_wrap]
  show Seg _ A _ _ _ s _ ((ask >>= _).wrap _ _ _ _) [] s
  refine seg_bind_wrap (wpAny_askSetting ?_)
  split
  · exact seg_again rfl loop
  · refine seg_bind_wrap (wpAny_rule ?_)
    show Seg _ A _ _ _ s _ ((standAt iter.pos >>= _).wrap _ _ _ _) [] s
    exact seg_bind_wrap (wpAny_standAt (seg_bind_wrap (G.start s _ _ hJ (seg_again rfl loop))))

/-- where a walk of a generator ends -/
def GFin (J : Nat → Heap → Prop) (Jd : Heap → Prop) (s s' : Shared) : Prop :=
  AllBare s'.gens ∧ s'.os = s.os ∧ ∃ h, ((∃ i, J i h) ∨ Jd h) ∧ ∀ b o, h.get? b = some o → s'.heap.get? b = some o
theorem GFin.of {s t s' : Shared} (h : GFin J Jd t s') (e : t.os = s.os) : GFin J Jd s s' := ⟨h.1, h.2.1.trans e, h.2.2⟩

theorem bare_set {s : Shared} {gs x : GenState} (B : AllBare s.gens) (hgs : s.gens[g]? = some gs) (hb : x.bare = true) : AllBare (s.setGen g x).gens :=
  B.moved (GenOnlyQ.of (GenOnly.setGen s g x) (setGen_self hgs) hb)

/-- the next item of a generator -/
theorem next_gen {Q : Option Value → Shared → Prop} {E : Value → Shared → Prop} (hh : A.handled = none) (hroom : A.depth < recursionLimit) (hI : ∀ i h, J i h → h.IsGen a g ∧ h.NoLimit) {k i : Nat} {s : Shared} {gs : GenState} (hk : n₀ - i = k) (hi : i ≤ n₀) (hJ : J i s.heap) (hgs : s.gens[g]? = some gs)
    (hgo : ∀ s'' : Shared, J i s''.heap → gs.Goes (model prog w) A.in1 (gEnd Jd) (gProto n₀ f J) k (.send .none) s'') (B : AllBare s.gens)
    (item : ∀ gs' s', i < n₀ → J (i + 1) s'.heap → s'.gens[g]? = some gs' → (∀ s'' : Shared, J (i + 1) s''.heap → gs'.Goes (model prog w) A.in1 (gEnd Jd) (gProto n₀ f J) (k - 1) (.send .none) s'') → AllBare s'.gens → s'.os = s.os → Q (some (.bool (f i))) s')
    (done : i = n₀ → ∀ s', GFin J Jd s s' → Q none s') : wpAny (model prog w) A (pyNext (.ref a)) Q E s := by
  obtain ⟨hg, hl⟩ := hI i s.heap hJ
  refine wpAny_pyNext_genexpQ (P := gP Jd) (Y := gProto n₀ f J) (n := k) hh hl hroom hg hgs (hgo _ hJ) (fun v s₁ gs' hb hv => ?_) (fun s₁ hp h' hk' => ?_)
  · obtain ⟨rfl, hs, hJ', hkap⟩ := hv
    cases k with
    | zero => exact False.elim (hkap s₁ hJ')
    | succ k =>
      have e1 : n₀ - 1 - (k + 1 - 1) = i := by omega
      have e2 : n₀ - (k + 1 - 1) = i + 1 := by omega
      rw [e1]
      rw [e2] at hJ' hkap
      have hg1 : (s.setGen g .running).gens[g]? = some .running := setGen_self hgs
      have hg2 : s₁.gens[g]? = some .running := by rw [hs.gens]; exact hg1
      refine item gs' (s₁.setGen g gs') (by omega) hJ' (setGen_self hg2) hkap (bare_set ?_ hg2 hb) ?_
      · rw [hs.gens]; exact bare_set B hgs rfl
      · show s₁.os = s.os
        exact hs.os
  · obtain ⟨h0, hs, hJd⟩ := hp
    have hg2 : s₁.gens[g]? = some .running := by rw [hs.gens]; exact setGen_self hgs
    refine done (by omega) _ ⟨?_, ?_, s₁.heap, .inr hJd, hk'⟩
    · show AllBare (s₁.setGen g .finished).gens
      refine bare_set ?_ hg2 rfl
      rw [hs.gens]; exact bare_set B hgs rfl
    · show s₁.os = s.os
      exact hs.os
theorem drop_range {n i : Nat} (h : i < n) : (List.range n).drop i = i :: (List.range n).drop (i + 1) := by
  rw [List.drop_eq_getElem_cons (by simpa using h)]; simp

theorem all_loop {R : Result → Shared → Prop} (hh : A.handled = none) (hroom : A.depth < recursionLimit) (hI : ∀ i h, J i h → h.IsGen a g ∧ h.NoLimit) :
    ∀ (k i : Nat) (s : Shared) (gs : GenState), n₀ - i = k → i ≤ n₀ → J i s.heap → s.gens[g]? = some gs → (∀ s'' : Shared, J i s''.heap → gs.Goes (model prog w) A.in1.in1 (gEnd Jd) (gProto n₀ f J) k (.send .none) s'') → AllBare s.gens →
      (∀ s', GFin J Jd s s' → R (.ok (.ret (.bool (((List.range n₀).drop i).all f)))) s') → codeAny (model prog w) A (.builtin "all.loop" ⟨[.ref a], []⟩) R s := by
  intro k
  induction k with
  | zero =>
    intro i s gs hk hi hJ hgs hgo B hR
    refine codeAny_builtin F.entry_all_loop ?_
    rw [Around.under_plainId F.plain_all_loop _]
    show wpAny _ A.in1 (pyNext (.ref a) >>= _) _ _ s
    refine wpAny_bind (next_gen (A := A.in1) hh hroom hI hk hi hJ hgs hgo B (fun gs' s' h _ _ _ _ _ => absurd h (by omega)) fun e s' fin => ?_)
    refine wpAny_bind (wpAny_rule (wpAny_pure ?_))
    have := hR s' fin
    rw [List.drop_of_length_le (by simp; omega)] at this
    exact this
  | succ k ih =>
    intro i s gs hk hi hJ hgs hgo B hR
    refine codeAny_builtin F.entry_all_loop ?_
    rw [Around.under_plainId F.plain_all_loop _]
    show wpAny _ A.in1 (pyNext (.ref a) >>= _) _ _ s
    refine wpAny_bind (next_gen (A := A.in1) hh hroom hI hk hi hJ hgs hgo B (fun gs' s' hlt hJ' hgs' hgo' B' hos => ?_) fun e s' fin => absurd e (by omega))
    refine wpAny_bind (wpAny_holding (wpAny_truthy_bool ?_))
    refine wpAny_bind (wpAny_letGo ?_)
    cases hb : f i with
    | true =>
      simp only [if_true]
      refine wpAny_pure ⟨plainId_quiet F.plain_all_loop _, ih (i + 1) s' gs' (by omega) hlt hJ' hgs' hgo' B' fun s'' fin => ?_⟩
      have := hR s'' (fin.of hos)
      rw [drop_range hlt, List.all_cons, hb, Bool.true_and] at this
      exact this
    | false =>
      simp only [Bool.false_eq_true, if_false]
      refine wpAny_bind (wpAny_rule (wpAny_pure ?_))
      have := hR s' ⟨B', hos, s'.heap, .inl ⟨_, hJ'⟩, fun _ _ e => e⟩
      rw [drop_range hlt, List.all_cons, hb, Bool.false_and] at this
      exact this
theorem any_loop {R : Result → Shared → Prop} (hh : A.handled = none) (hroom : A.depth < recursionLimit) (hI : ∀ i h, J i h → h.IsGen a g ∧ h.NoLimit) :
    ∀ (k i : Nat) (s : Shared) (gs : GenState), n₀ - i = k → i ≤ n₀ → J i s.heap → s.gens[g]? = some gs → (∀ s'' : Shared, J i s''.heap → gs.Goes (model prog w) A.in1.in1 (gEnd Jd) (gProto n₀ f J) k (.send .none) s'') → AllBare s.gens →
      (∀ s', GFin J Jd s s' → R (.ok (.ret (.bool (((List.range n₀).drop i).any f)))) s') → codeAny (model prog w) A (.builtin "any.loop" ⟨[.ref a], []⟩) R s := by
  intro k
  induction k with
  | zero =>
    intro i s gs hk hi hJ hgs hgo B hR
    refine codeAny_builtin F.entry_any_loop ?_
    rw [Around.under_plainId F.plain_any_loop _]
    show wpAny _ A.in1 (pyNext (.ref a) >>= _) _ _ s
    refine wpAny_bind (next_gen (A := A.in1) hh hroom hI hk hi hJ hgs hgo B (fun gs' s' h _ _ _ _ _ => absurd h (by omega)) fun e s' fin => ?_)
    refine wpAny_bind (wpAny_rule (wpAny_pure ?_))
    have := hR s' fin
    rw [List.drop_of_length_le (by simp; omega)] at this
    exact this
  | succ k ih =>
    intro i s gs hk hi hJ hgs hgo B hR
    refine codeAny_builtin F.entry_any_loop ?_
    rw [Around.under_plainId F.plain_any_loop _]
    show wpAny _ A.in1 (pyNext (.ref a) >>= _) _ _ s
    refine wpAny_bind (next_gen (A := A.in1) hh hroom hI hk hi hJ hgs hgo B (fun gs' s' hlt hJ' hgs' hgo' B' hos => ?_) fun e s' fin => absurd e (by omega))
    refine wpAny_bind (wpAny_holding (wpAny_truthy_bool ?_))
    refine wpAny_bind (wpAny_letGo ?_)
    cases hb : f i with
    | false =>
      simp only [Bool.false_eq_true, if_false]
      refine wpAny_pure ⟨plainId_quiet F.plain_any_loop _, ih (i + 1) s' gs' (by omega) hlt hJ' hgs' hgo' B' fun s'' fin => ?_⟩
      have := hR s'' (fin.of hos)
      rw [drop_range hlt, List.any_cons, hb, Bool.false_or] at this
      exact this
    | true =>
      simp only [if_true]
      refine wpAny_bind (wpAny_rule (wpAny_pure ?_))
      have := hR s' ⟨B', hos, s'.heap, .inl ⟨_, hJ'⟩, fun _ _ e => e⟩
      rw [drop_range hlt, List.any_cons, hb, Bool.true_or] at this
      exact this
section
variable {s : Shared} {E Q : Value → Shared → Prop}
theorem all_gen (hh : A.handled = none) (hroom : A.depth < recursionLimit) (hco : cenv.scope.isCoroutine = false) (G : GTurn prog w A.in1.in1 iter scope pos I cenv elt x px n₀ f J Jd) (hI : ∀ i h, J i h → h.IsGen a g ∧ h.NoLimit)
    (hgs : s.gens[g]? = some (.fresh (.compStart (.GeneratorExp elt [⟨.Name x px, iter, [], 0⟩] scope pos) 0 (.ref I) .none cenv))) (hJ : J 0 s.heap) (B : AllBare s.gens)
    (hQ : ∀ s', GFin J Jd s s' → Q (.bool ((List.range n₀).all f)) s') : wpAny (model prog w) A (call (.builtin "all") [.ref a]) Q E s := by
  refine call_function_tree F.kind_all F.plain_all F.entry_all (F.args_all1 _) ?_
  unfold Builtin.«all»
  refine wpAny_bind (m := oneArg "all" _) (wpAny_pure ?_)
  refine wpAny_bind (wpAny_pyIter_gen (hI 0 _ hJ).1 ?_)
  refine wpAny_pure ⟨plainId_quiet F.plain_all_loop _, all_loop (A := A) hh hroom hI n₀ 0 s _ (Nat.sub_zero _) (Nat.zero_le _) hJ hgs (fun s'' h'' => ⟨rfl, seg_first hco G s'' h''⟩) B fun s' fin => by simpa using hQ s' fin⟩
theorem any_gen (hh : A.handled = none) (hroom : A.depth < recursionLimit) (hco : cenv.scope.isCoroutine = false) (G : GTurn prog w A.in1.in1 iter scope pos I cenv elt x px n₀ f J Jd) (hI : ∀ i h, J i h → h.IsGen a g ∧ h.NoLimit)
    (hgs : s.gens[g]? = some (.fresh (.compStart (.GeneratorExp elt [⟨.Name x px, iter, [], 0⟩] scope pos) 0 (.ref I) .none cenv))) (hJ : J 0 s.heap) (B : AllBare s.gens)
    (hQ : ∀ s', GFin J Jd s s' → Q (.bool ((List.range n₀).any f)) s') : wpAny (model prog w) A (call (.builtin "any") [.ref a]) Q E s := by
  refine call_function_tree F.kind_any F.plain_any F.entry_any (F.args_any1 _) ?_
  unfold Builtin.«any»
  refine wpAny_bind (m := oneArg "any" _) (wpAny_pure ?_)
  refine wpAny_bind (wpAny_pyIter_gen (hI 0 _ hJ).1 ?_)
  refine wpAny_pure ⟨plainId_quiet F.plain_any_loop _, any_loop (A := A) hh hroom hI n₀ 0 s _ (Nat.sub_zero _) (Nat.zero_le _) hJ hgs (fun s'' h'' => ⟨rfl, seg_first hco G s'' h''⟩) B fun s' fin => by simpa using hQ s' fin⟩
end
end
end
section
example : True := by w_top off; trivial
/-- the heap within a generator's walk -/
def GJd (h₀ : Heap) (C : Addr) (lst : List Env) (frX own₀ : Led) (h : Heap) : Prop := ∃ own fr m, Fr h₀ C h m ∧ News h₀ C h (own ++ fr) ∧ Tl lst frX fr ∧ Off own lst ∧ Kq own₀ own
def GJ (h₀ : Heap) (C I l : Addr) (lst : List Env) (frX own₀ : Led) (i : Nat) (h : Heap) : Prop :=
  ∃ own fr m oI, Fr h₀ C h m ∧ News h₀ C h (own ++ fr) ∧ Tl lst frX fr ∧ Off own lst ∧ Kq own₀ own ∧ (I, oI) ∈ own ∧ oI.cls = .type "list_iterator" ∧ oI.data = .fields #[.ref l, .int i 0]
theorem gj_move {h₀ h h₁ : Heap} {C I : Addr} {lst : List Env} {frX own₀ own fr : Led} {m : Str → Option Value} {oI : Obj} (F : Fr h₀ C h m) (N : News h₀ C h (own ++ fr)) (t : Tl lst frX fr) (O : Off own lst) (kq : Kq own₀ own) (hI : (I, oI) ∈ own) (nI : New own₀ I)
    (k : ∀ b o, b ∉ [I] → h.get? b = some o → h₁.get? b = some o) :
    ∃ own₁, Fr h₀ C h₁ m ∧ News h₀ C h₁ (own₁ ++ fr) ∧ Off own₁ lst ∧ Kq own₀ own₁ ∧ ∀ oI', h₁.get? I = some oI' → News h₀ C h₁ (((I, oI') :: own₁) ++ fr) ∧ Off ((I, oI') :: own₁) lst := by
  have z := N _ (List.mem_append_left _ hI)
  have oIl : I ∉ frs lst := O _ hI
  have k' : ∀ b o, b ≠ I → h.get? b = some o → h₁.get? b = some o := fun b o hb e => k b o (fun hm => hb (List.mem_singleton.mp hm)) e
  have N₁ : News h₀ C h₁ (own.filter (fun p => decide (p.1 ≠ I)) ++ fr) := fun p hp => by
    have hpI : p.1 ≠ I := by
      rcases List.mem_append.mp hp with hp | hp
      · simpa using (List.mem_filter.mp hp).2
      · intro e
        refine oIl ?_
        rw [frs, t.1.addrs, ← e]
        exact List.mem_map_of_mem hp
    have hp' : p ∈ own ++ fr := by
      rcases List.mem_append.mp hp with hp | hp
      · exact List.mem_append_left _ (List.mem_filter.mp hp).1
      · exact List.mem_append_right _ hp
    obtain ⟨a, b, c⟩ := N p hp'
    exact ⟨k' _ _ hpI a, b, c⟩
  have O₁ : Off (own.filter (fun p => decide (p.1 ≠ I))) lst := fun p hp => O p (List.mem_filter.mp hp).1
  obtain ⟨oL, es, ep, hoL, hr⟩ := F.ns
  refine ⟨own.filter (fun p => decide (p.1 ≠ I)), ⟨⟨oL, es, ep, k' _ _ (Ne.symm z.2.1) hoL, hr⟩, fun b o e => k' b o (fun q => by rw [q, z.2.2] at e; cases e) (F.keep b o e), F.above⟩, N₁, O₁, fun p hp => List.mem_filter.mpr ⟨kq p hp, by simpa using nI p hp⟩, fun oI' e => ⟨fun p hp => ?_, Off.cons oIl O₁⟩⟩
  rcases List.mem_cons.mp hp with q | hp
  · rw [q]; exact ⟨e, z.2⟩
  · exact N₁ p hp
theorem fr_assign {h₀ h h' : Heap} {C : Addr} {own fr : Led} {m m' : Str → Option Value} (F : Fr h₀ C h m) (N : News h₀ C h (own ++ fr)) (hn : h'.Ns C m') (hs : Heap.SameBut C h h') : Fr h₀ C h' m' ∧ News h₀ C h' (own ++ fr) :=
  ⟨F.set hn hs, fun p hp => let ⟨a, b, c⟩ := N p hp; ⟨(hs.2 _ b).trans a, b, c⟩⟩
theorem gen_codes {elt : Expr} {gens : List Comprehension} {scope : Scope} {pos : PySem.Pos} {it acc : Value} {cenv : Env} : (Code.compLoop (.GeneratorExp elt gens scope pos) 0 it acc cenv).envs = [cenv] ∧ (Code.compLoop (.GeneratorExp elt gens scope pos) 0 it acc cenv).weight = 1 ∧ (Code.compLoop (.GeneratorExp elt gens scope pos) 0 it acc cenv).cUnits = 3 ∧ (Code.compLoop (.GeneratorExp elt gens scope pos) 0 it acc cenv).guards = [] :=
  ⟨rfl, rfl, rfl, rfl⟩
theorem Fits.gen {A : Around} {D U : Nat} {l : List Env} {elt iter : Expr} {x : Str} {px pos : PySem.Pos} {scope : Scope} {it : Value} {cenv : Env} (h : Fits A D U l) :
    Fits (A.over (.compLoop (.GeneratorExp elt [⟨.Name x px, iter, [], 0⟩] scope pos) 0 it .none cenv) []) (D + 1) (U + 3) (cenv :: l) := by
  obtain ⟨e1, e2, e3, e4⟩ := gen_codes (elt := elt) (gens := [⟨.Name x px, iter, [], 0⟩]) (scope := scope) (pos := pos) (it := it) (acc := .none) (cenv := cenv)
  refine ⟨h.handled, ?_, ?_, ?_, ?_⟩
  · show A.depth + 0 + _ ≤ D + 1
    rw [e2]; have := h.depth; omega
  · unfold Around.over
    dsimp only
    rw [e1, h.frames]; rfl
  · unfold Around.over
    dsimp only
    rw [e4, h.guards]; rfl
  · show A.units + 0 + _ ≤ U + 3
    rw [e3]; have := h.units; omega
section
variable {prog : Program} {w : World} {A : Around} {h₀ : Heap} {C I l S D Ls cS : Addr} {oC : Obj} {scope : Scope} {cl : List (Str × Addr)} {code : Value} {envq : Env} {lst : List Env} {frX own₀ : Led} {xs ys : List Value} {n2 : Nat} {mg mb : Str → Option Value} {p : Program} {loose : List Str} {mean : ExcName → Option Value} {iter : Expr} {px p1 p2 p3 pos : PySem.Pos}
theorem gj_elt {E : Value → Shared → Prop} (hA : Fits A 360 700 (genEnv scope cl C code builtinsNs envq :: lst)) (X : (Mine.hd.heap_39 w.params).In h₀) (T : Top p loose mean mg mb h₀)
    (hk : scope.kind = .function) (hx : scope.names.lookup ("item" : Str) = some .local) (hs : scope.names.lookup ("self" : Str) = some .free) (hcl : cl.lookup ("self" : Str) = some cS) (hcS : (cS, oC) ∈ own₀) (hoC : oC.data = .cell (some (.ref S)))
    (h : SetAt own₀ S D Ls xs) (hxs : xs.length ≤ 1000) {s : Shared} {own fr : Led} {m : Str → Option Value} {y : Value} (hy : Th y) (F : Fr h₀ C s.heap m) (hm : m ("item" : Str) = some y) (N : News h₀ C s.heap (own ++ fr)) (t : Tl lst frX fr) (O : Off own lst) (kq : Kq own₀ own) (neg : Bool) :
    wpAny (model prog w) A (eval (.Compare (.Name "item" p1) [if neg then .NotIn else .In] [.Name "self" p2] p3) (genEnv scope cl C code builtinsNs envq))
      (fun v s₃ => v = .bool (neg ^^ has xs y) ∧ ∃ h' tk fr', s₃ = { s with heap := h', toks := tk } ∧ Fr h₀ C h' m ∧ News h₀ C h' (own ++ fr') ∧ Tl lst frX fr') E s := by
  have hS := h.toQ kq
  obtain ⟨a, b, hD⟩ := hS.hD
  have iS := InstAt.of_news N (List.mem_append_left _ hS.hS) (List.mem_append_left _ hD)
  have fin : ∀ E', wpAny (model prog w) A (call (.ref 184) [.ref S, y]) (fun v s₃ => v = .bool (has xs y) ∧ ∃ h' tk fr', s₃ = { s with heap := h', toks := tk } ∧ Fr h₀ C h' m ∧ News h₀ C h' (own ++ fr') ∧ Tl lst frX fr') E' s := fun E' => by
    refine Con.use (c_contains hS hy hxs) ⟨hA.handled, Nat.le_trans hA.depth (by decide), hA.frames, hA.guards, Nat.le_trans hA.units (by decide)⟩ (env := genEnv scope cl C code builtinsNs envq) (L := C) rfl hk F X T N Cut.base t O ?_
    rintro v h' tk own' fr' t' F' N' O' ⟨rfl, rfl⟩
    exact ⟨rfl, h', tk, fr', rfl, F', N', t'⟩
  refine wpAny_Compare1 (ldVarG F hm (ldFreeG (c := cS) (v := .ref S) hcl ⟨_, (N _ (List.mem_append_left _ (kq _ hcS))).1, hoC⟩ ?_ hk hs) hk hx) (by cases neg <;> rfl)
  cases neg with
  | false =>
    simp only [Bool.false_eq_true, if_false]
    refine PySem.W.in_K (C := 306) (f := 184) F X iS (by k_is) (by k_is) (wpAny_mono (fin E) (fun v s₃ hv => ?_) fun _ _ e => e)
    obtain ⟨rfl, r⟩ := hv
    exact wpAny_truthy_bool ⟨by simp, r⟩
  | true =>
    simp only [if_true]
    refine PySem.W.notIn_K (C := 306) (f := 184) F X iS (by k_is) (by k_is) (wpAny_mono (fin E) (fun v s₃ hv => ?_) fun _ _ e => e)
    obtain ⟨rfl, r⟩ := hv
    exact wpAny_truthy_bool ⟨by simp, r⟩
theorem gj_turn (hA : Fits A 359 697 lst) (X : (Mine.hd.heap_39 w.params).In h₀) (T : Top p loose mean mg mb h₀)
    (hk : scope.kind = .function) (hx : scope.names.lookup ("item" : Str) = some .local) (hs : scope.names.lookup ("self" : Str) = some .free) (hcl : cl.lookup ("self" : Str) = some cS) (hcS : (cS, oC) ∈ own₀) (hoC : oC.data = .cell (some (.ref S)))
    (h : SetAt own₀ S D Ls xs) (hxs : xs.length ≤ 1000) (hl : (l, listOf ys.toArray n2) ∈ own₀) (hys : ∀ y ∈ ys, Th y) (nI : New own₀ I) (neg : Bool) :
    GTurn prog w A iter scope pos I (genEnv scope cl C code builtinsNs envq) (.Compare (.Name "item" p1) [if neg then .NotIn else .In] [.Name "self" p2] p3) "item" px ys.length (fun i => neg ^^ has xs (ys.getD i .none)) (GJ h₀ C I l lst frX own₀) (GJd h₀ C lst frX own₀) where
  start := fun s Q E hJ hQ => by
    obtain ⟨own, fr, m, oI, F, N, t, O, kq, hI, c1, c2⟩ := hJ
    have W := walkAll (prog := prog) (w := w) (A := A.over (.compStart (.GeneratorExp (.Compare (.Name "item" p1) [if neg then .NotIn else .In] [.Name "self" p2] p3) [⟨.Name "item" px, iter, [], 0⟩] scope pos) 0 (.ref I) .none (genEnv scope cl C code builtinsNs envq)) []) (I := I) hA.handled (nI _ hl) ys
    exact W.self 0 s Q E ⟨⟨oI, (N _ (List.mem_append_left _ hI)).1, c1, c2⟩, ⟨_, (N _ (List.mem_append_left _ (kq _ hl))).1, rfl, n2, rfl⟩⟩ hQ
  item := fun i s E hi hJ => by
    obtain ⟨own, fr, m, oI, F, N, t, O, kq, hI, c1, c2⟩ := hJ
    have W := walkAll (prog := prog) (w := w) (A := A.over (.compLoop (.GeneratorExp (.Compare (.Name "item" p1) [if neg then .NotIn else .In] [.Name "self" p2] p3) [⟨.Name "item" px, iter, [], 0⟩] scope pos) 0 (.ref I) .none (genEnv scope cl C code builtinsNs envq)) []) (I := I) hA.handled (nI _ hl) ys
    refine W.item i s _ _ hi ⟨⟨oI, (N _ (List.mem_append_left _ hI)).1, c1, c2⟩, ⟨_, (N _ (List.mem_append_left _ (kq _ hl))).1, rfl, n2, rfl⟩⟩ fun v h₁ tk₁ hv hst hk₁ => ⟨v, rfl, ?_⟩
    obtain ⟨own₁, F₁, N₁, O₁, kq₁, up⟩ := gj_move F N t O kq hI nI hk₁
    obtain ⟨⟨oI', hI', c1', c2'⟩, _⟩ := hst
    obtain ⟨N₂, O₂⟩ := up oI' hI'
    refine wpAny_assign_Name (wpAny_storeName_local hx F₁.ns (fun h₂ hn₂ hs₂ => ?_) (by simp [genEnv, hk]))
    obtain ⟨F₂, N₃⟩ := fr_assign F₁ N₂ hn₂ hs₂
    have hvm : v ∈ ys := List.mem_of_getElem? hv
    have hvd : ys.getD i .none = v := by rw [List.getD_eq_getElem?_getD, hv]; rfl
    have kq₂ : Kq own₀ ((I, oI') :: own₁) := fun p hp => .tail _ (kq₁ p hp)
    refine wpAny_mono (gj_elt hA.gen X T hk hx hs hcl hcS hoC h hxs (hys _ hvm) F₂ (if_pos rfl) N₃ t O₂ kq₂ neg) (fun y s₃ hq => ?_) fun _ _ e => e
    obtain ⟨rfl, h', tk, fr', rfl, F₄, N₄, t₄⟩ := hq
    exact ⟨by rw [hvd], ⟨h', tk, rfl⟩, (I, oI') :: own₁, fr', _, oI', F₄, N₄, t₄, O₂, kq₂, .head _, c1', c2'⟩
  done := fun s E hJ => by
    obtain ⟨own, fr, m, oI, F, N, t, O, kq, hI, c1, c2⟩ := hJ
    have W := walkAll (prog := prog) (w := w) (A := A.over (.compLoop (.GeneratorExp (.Compare (.Name "item" p1) [if neg then .NotIn else .In] [.Name "self" p2] p3) [⟨.Name "item" px, iter, [], 0⟩] scope pos) 0 (.ref I) .none (genEnv scope cl C code builtinsNs envq)) []) (I := I) hA.handled (nI _ hl) ys
    refine W.done s _ _ ⟨⟨oI, (N _ (List.mem_append_left _ hI)).1, c1, c2⟩, ⟨_, (N _ (List.mem_append_left _ (kq _ hl))).1, rfl, n2, rfl⟩⟩ fun h₁ tk₁ hk₁ => ⟨rfl, ⟨h₁, tk₁, rfl⟩, ?_⟩
    obtain ⟨own₁, F₁, N₁, O₁, kq₁, _⟩ := gj_move F N t O kq hI nI hk₁
    exact ⟨own₁, fr, m, F₁, N₁, t, O₁, kq₁⟩
end
end
section
example : True := by w_top off; trivial
abbrev tbl (ps : Array Value) : Obj := { cls := .none, data := .fields ps }
abbrev itO (l : Addr) : Obj := { cls := .type "list_iterator", data := .fields #[.ref l, .int 0 0] }
section
variable {prog : Program} {w : World} {A : Around} {E Q : Value → Shared → Prop} {s : Shared} {h₀ : Heap} {L P c l : Addr} {m mg mb : Str → Option Value} {own fr₁ fr : Led} {env : Env} {outer : List Env} {p : Program} {loose : List Str} {mean : ExcName → Option Value} {ys : List Value} {n2 : Nat}
  {elt iter : Expr} {x : Str} {px pos : PySem.Pos} {scope : Scope} {cl : List (Str × Addr)}
/-- a generator expression over a list of the ledger is made -/
theorem u_gexp (hh : A.handled = none) (hroom : A.depth < recursionLimit) (hco : scope.isCoroutine = false) (hclos : closureFor scope env = pure cl) (hcell : ∀ y ∈ scope.names, y.2 ≠ .cell) (h0 : scope.names.lookup (".0" : Str) = some NameKind.local) (hkind : scope.kind = .function)
    (hcode : env.code = .ref c) (hg : env.globals = mainGlobals) (hf : env.frame = some L) (hke : env.scope.kind = .function) (F : Fr h₀ L s.heap m) (N : News h₀ L s.heap (own ++ fr)) (t : Tl outer fr₁ fr) (O : Off own outer) (T : Top p loose mean mg mb h₀) (B : AllBare s.gens)
    (hl : (l, listOf ys.toArray n2) ∈ own) (hic : s.heap.IsCode c P #[]) (htab : s.heap.TableAt c P #[]) (hP : (P, tbl #[]) ∈ own)
    (hi : wpAny (model prog w) A (eval iter env) (fun v s' => v = .ref l ∧ s' = s) E s)
    (h : ∀ (a C I : Addr) (code : Value) (s' : Shared) (ps : Array Value) (nm qn : Value) (own₀ : Led) (oL : Obj), s'.os = s.os → AllBare s'.gens → s'.gens[s.gens.size]? = some (.fresh (.compStart (.GeneratorExp elt [⟨.Name x px, iter, [], 0⟩] scope pos) 0 (.ref I) .none (genEnv scope cl C code builtinsNs env))) →
      Kp P own own₀ → (P, tbl ps) ∈ own₀ → (a, ({ cls := .type "generator", data := .fields #[.int s.gens.size 0, nm, qn] } : Obj)) ∈ own₀ → New own₀ I → s'.heap.get? L = some oL → Fr h₀ L s'.heap m → News h₀ L s'.heap (own₀ ++ fr) → Off own₀ outer →
      GJ h₀ C I l (env :: outer) ((L, oL) :: fr) own₀ 0 s'.heap → Q (.ref a) s')
    (hs : ∀ x, genFold iter env x = pure x) :
    wpAny (model prog w) A (eval (.GeneratorExp elt [⟨.Name x px, iter, [], 0⟩] scope pos) env) Q E s := by
  refine wpAny_GeneratorExp_make hco hclos hcell h0 hkind hroom (wpAny_mono hi (fun xv s₁ h₁ => ?_) fun _ _ e => e) hs
  obtain ⟨rfl, rfl⟩ := h₁
  have hol := (N _ (List.mem_append_left _ hl)).1
  have hPs := N _ (List.mem_append_left _ hP)
  have hPlt : P < s₁.heap.objs.size := Heap.lt_size hPs.1
  refine wpAny_pyIter_list ⟨_, hol, rfl, n2, rfl⟩ ⟨(T.nolimit.keeps F.keep).push _, ?_⟩
  have k2 : ∀ b o, s₁.heap.get? b = some o → (s₁.heap.push (itO l)).get? b = some o := fun b o e => Heap.get?_push_of_some _ e
  refine wpAny_genexprCodeX (s := { s₁ with heap := s₁.heap.push (itO l) }) hcode (hic.keeps k2) (htab.keeps k2) rfl fun c' h₃ tk₃ hx₃ hge hlt _ _ ht₃ _ => ?_
  have hsz2 : (s₁.heap.push (itO l)).objs.size = s₁.heap.objs.size + 1 := Heap.size_push ..
  have hge' : s₁.heap.objs.size + 1 ≤ c' := hsz2 ▸ hge
  have hlt3 : s₁.heap.objs.size < h₃.objs.size := by omega
  obtain ⟨oL, es, ep, hoL, hLd, hLk, hLm⟩ := id F.ns
  have hLlt : L < s₁.heap.objs.size := Heap.lt_size hoL
  have k3 : ∀ b o, b ≠ P → s₁.heap.get? b = some o → h₃.get? b = some o := fun b o hb e => hx₃ b o hb (k2 b o e)
  have F3k : ∀ b o, h₀.get? b = some o → h₃.get? b = some o := fun b o e => k3 b o (fun q => by rw [q, hPs.2.2] at e; cases e) (F.keep b o e)
  obtain ⟨bm, ob, b1, b2, b3, b4, b5, b6⟩ := T.bmain
  refine wpAny_builtinsFor (s := { s₁ with heap := h₃, toks := tk₃ }) (m := mg) (bm := bm) (hg ▸ T.g.keeps F3k) b1 b2 (F3k _ _ b3) b4 b5 b6 ?_
  intro h' hn' hs'
  have hszh : h'.objs.size = h₃.objs.size + 1 := by rw [hs'.1, Heap.size_push]
  have hsh : s₁.heap.objs.size < h'.objs.size := by omega
  have hLh : L < h'.objs.size := Nat.lt_trans hLlt hsh
  have k4 : ∀ b o, h₃.get? b = some o → h'.get? b = some o := fun b o e => hs'.extBut b o (Nat.ne_of_lt (Heap.lt_size e)) (Heap.get?_push_of_some _ e)
  let og : Obj := { cls := .type "generator", data := .fields #[.int s₁.gens.size 0, .str "<genexpr>" (tk₃ + 1), .str (env.qual ++ "<genexpr>") (tk₃ + 1 + 1)] }
  have kf : ∀ b o, b ≠ P → s₁.heap.get? b = some o → (h'.push og).get? b = some o := fun b o hb e => Heap.get?_push_of_some _ (k4 b o (k3 b o hb e))
  have hP' : (h'.push og).get? P = some (tbl (#[] ++ #[rawInt pos.line, rawInt pos.col, .ref c'])) := Heap.get?_push_of_some _ (k4 _ _ ht₃.2)
  have hI' : (h'.push og).get? s₁.heap.objs.size = some (itO l) := Heap.get?_push_of_some _ (k4 _ _ (hx₃ _ _ (Nat.ne_of_gt hPlt) (Heap.get?_push_size _ rfl)))
  have ha' : (h'.push og).get? h'.objs.size = some og := Heap.get?_push_size _ rfl
  have hLP : L ≠ P := fun e => hPs.2.1 e.symm
  have hnew : ∀ b, s₁.heap.objs.size ≤ b → h₀.get? b = none := fun b hb => Heap.get?_none_of_le (Nat.le_trans F.above (Nat.le_trans (Nat.le_of_lt hLlt) hb))
  have hfr : ∀ q ∈ own ++ fr, q.1 < s₁.heap.objs.size := fun q hq => Heap.lt_size (N q hq).1
  have hfo : ∀ b, s₁.heap.objs.size ≤ b → b ∉ frs outer := fun b hb hm => by
    rw [frs, t.1.addrs] at hm
    obtain ⟨q, hq, e⟩ := List.mem_map.mp hm
    have := hfr q (List.mem_append_right _ hq)
    rw [e] at this
    exact absurd this (Nat.not_lt.mpr hb)
  have hfP : ∀ q ∈ fr, q.1 ≠ P := fun q hq e => O _ hP (by
    show P ∈ frs outer
    rw [frs, t.1.addrs, ← e]
    exact List.mem_map_of_mem hq)
  -- the ledger
  let own₀ : Led := (h'.objs.size, og) :: upd P (tbl (#[] ++ #[rawInt pos.line, rawInt pos.col, .ref c'])) own
  have kp : Kp P own own₀ := fun q hq n => .tail _ (upd_kp q hq n)
  have mP : (P, tbl (#[] ++ #[rawInt pos.line, rawInt pos.col, .ref c'])) ∈ own₀ := .tail _ (upd_mem hP)
  have sub : ∀ q ∈ upd P (tbl (#[] ++ #[rawInt pos.line, rawInt pos.col, .ref c'])) own, q = (P, tbl (#[] ++ #[rawInt pos.line, rawInt pos.col, .ref c'])) ∨ (q ∈ own ∧ q.1 ≠ P) := fun q hq => by
    obtain ⟨r, hr, e⟩ := List.mem_map.mp hq
    by_cases hrP : r.1 = P
    · rw [if_pos hrP] at e; exact .inl e.symm
    · rw [if_neg hrP] at e; exact .inr ⟨e ▸ hr, e ▸ hrP⟩
  have lt0 : ∀ q ∈ own₀, q.1 ≠ s₁.heap.objs.size := fun q hq => by
    rcases List.mem_cons.mp hq with e | hq
    · rw [e]; exact Nat.ne_of_gt hsh
    · rcases sub q hq with e | ⟨hq, _⟩
      · rw [e]; exact Nat.ne_of_lt hPlt
      · exact Nat.ne_of_lt (hfr q (List.mem_append_left _ hq))
  have got : ∀ q ∈ own₀, (h'.push og).get? q.1 = some q.2 ∧ q.1 ≠ L ∧ h₀.get? q.1 = none := fun q hq => by
    rcases List.mem_cons.mp hq with e | hq
    · rw [e]; exact ⟨ha', Nat.ne_of_gt hLh, hnew _ (Nat.le_of_lt hsh)⟩
    · rcases sub q hq with e | ⟨hq, n⟩
      · rw [e]; exact ⟨hP', hPs.2⟩
      · exact ⟨kf _ _ n (N q (List.mem_append_left _ hq)).1, (N q (List.mem_append_left _ hq)).2⟩
  have gotF : ∀ q ∈ fr, (h'.push og).get? q.1 = some q.2 ∧ q.1 ≠ L ∧ h₀.get? q.1 = none := fun q hq => ⟨kf _ _ (hfP q hq) (N q (List.mem_append_right _ hq)).1, (N q (List.mem_append_right _ hq)).2⟩
  have OO : Off own₀ outer := fun q hq => by
    rcases List.mem_cons.mp hq with e | hq
    · rw [e]; exact hfo _ (Nat.le_of_lt hsh)
    · rcases sub q hq with e | ⟨hq, n⟩
      · rw [e]; exact O (P, tbl #[]) hP
      · exact O _ hq
  have hLf : (h'.push og).get? L = some oL := kf _ _ hLP hoL
  have FK : ∀ b o, h₀.get? b = some o → (h'.push og).get? b = some o := fun b o e => Heap.get?_push_of_some _ (k4 b o (F3k b o e))
  have hCn : h₃.objs.size ≠ h'.objs.size := by omega
  refine h h'.objs.size h₃.objs.size s₁.heap.objs.size (.ref c') _ (#[] ++ #[rawInt pos.line, rawInt pos.col, .ref c']) (.str "<genexpr>" (tk₃ + 1)) (.str (env.qual ++ "<genexpr>") (tk₃ + 1 + 1)) own₀ oL rfl (B.push rfl) (Array.getElem?_push_size ..) kp mP (.head _) lt0 hLf
    ⟨⟨oL, es, ep, hLf, hLd, hLk, hLm⟩, FK, F.above⟩ (fun q hq => ?_) OO ?_
  · rcases List.mem_append.mp hq with hq | hq
    · exact got q hq
    · exact gotF q hq
  · refine ⟨(s₁.heap.objs.size, itO l) :: own₀, (L, oL) :: fr, _, itO l, ⟨hn'.push _, FK, Nat.le_trans F.above (Nat.le_of_lt (Nat.lt_trans hLlt hlt3))⟩, fun q hq => ?_, Tl.refl ⟨by rw [hke]; decide, hf, ⟨es, ep, hLd⟩, t.1⟩, fun q hq hm => ?_, fun q hq => .tail _ hq, .head _, rfl, rfl⟩
    · rcases List.mem_append.mp hq with hq | hq
      · rcases List.mem_cons.mp hq with e | hq
        · rw [e]; exact ⟨hI', Nat.ne_of_lt hlt3, hnew _ (Nat.le_refl _)⟩
        · obtain ⟨a1, a2, a3⟩ := got q hq
          refine ⟨a1, ?_, a3⟩
          rcases List.mem_cons.mp hq with e | hq
          · rw [e]; exact fun q => hCn q.symm
          · rcases sub q hq with e | ⟨hq, n⟩
            · rw [e]; exact Nat.ne_of_lt (Nat.lt_trans hPlt hlt3)
            · exact Nat.ne_of_lt (Nat.lt_trans (hfr q (List.mem_append_left _ hq)) hlt3)
      · rcases List.mem_cons.mp hq with e | hq
        · rw [e]; exact ⟨hLf, Nat.ne_of_lt (Nat.lt_trans hLlt hlt3), Heap.get?_none_of_le F.above⟩
        · obtain ⟨a1, a2, a3⟩ := gotF q hq
          exact ⟨a1, Nat.ne_of_lt (Nat.lt_trans (hfr q (List.mem_append_right _ hq)) hlt3), a3⟩
    · rw [frs, List.filterMap_cons, hf] at hm
      rcases List.mem_cons.mp hm with e | hm
      · rcases List.mem_cons.mp hq with e' | hq
        · rw [e'] at e; exact absurd e (Nat.ne_of_gt hLlt)
        · exact (got q hq).2.1 e
      · rcases List.mem_cons.mp hq with e' | hq
        · rw [e'] at hm; exact hfo _ (Nat.le_refl _) hm
        · exact OO q hq hm
end
end
section
example : True := by w_top off; trivial
local macro_rules | `(tactic| walk_at "exec Try cons cons nil nil") => `(tactic| (k_here; (with_reducible show wpAny _ _ (exec (Stmt.Try _ (_ :: _) _ [] _) (envOfC _ _ _ _ _)) _ _ _); refine wpAny_Try_except (PySem.wpAny_noRaise ?_)))
local macro_rules | `(tactic| walk_at "eval GeneratorExp") => `(tactic| refine Hold.of ?_)
local macro_rules | `(tactic| walk_at "call builtin:all") => `(tactic| refine Hold.of ?_)
local macro_rules | `(tactic| walk_at "call builtin:any") => `(tactic| refine Hold.of ?_)
theorem range_all (ys : List Value) (q : Value → Bool) : (List.range ys.length).all (fun i => q (ys.getD i .none)) = ys.all q := by
  rw [Bool.eq_iff_iff, List.all_eq_true, List.all_eq_true]
  constructor
  · intro h y hy
    obtain ⟨i, hi, rfl⟩ := List.getElem_of_mem hy
    have := h i (List.mem_range.mpr hi)
    rwa [List.getD_eq_getElem?_getD, List.getElem?_eq_getElem hi] at this
  · intro h i hi
    have hi' := List.mem_range.mp hi
    rw [List.getD_eq_getElem?_getD, List.getElem?_eq_getElem hi']
    exact h _ (List.getElem_mem hi')
theorem range_any (ys : List Value) (q : Value → Bool) : (List.range ys.length).any (fun i => q (ys.getD i .none)) = ys.any q := by
  have := range_all ys (fun y => !q y)
  rw [← Bool.not_inj_iff, List.not_any_eq_all_not, List.not_any_eq_all_not]
  exact this
/-- a generator's walk is over: back in the frame that made it -/
theorem gj_back {h₀ : Heap} {C I l L : Addr} {env : Env} {outer : List Env} {fr own₀ fr₁ : Led} {oL : Obj} {m : Str → Option Value} {s s' s₀ : Shared} (fin : GFin (GJ h₀ C I l (env :: outer) ((L, oL) :: fr) own₀) (GJd h₀ C (env :: outer) ((L, oL) :: fr) own₀) s s')
    (F : Fr h₀ L s₀.heap m) (N : News h₀ L s₀.heap (own₀ ++ fr)) (hL : s₀.heap.get? L = some oL) (hf : env.frame = some L) (t : Tl outer fr₁ fr) :
    ∃ own' fr', Tl outer fr₁ fr' ∧ Fr h₀ L s'.heap m ∧ News h₀ L s'.heap (own' ++ fr') ∧ Off own' outer ∧ Kq own₀ own' := by
  obtain ⟨_, _, hh, hj, kk⟩ := fin
  have key : GJd h₀ C (env :: outer) ((L, oL) :: fr) own₀ hh := by
    rcases hj with ⟨i, own, fr', m', oI, F', N', t', O', kq', _⟩ | hj
    · exact ⟨own, fr', m', F', N', t', O', kq'⟩
    · exact hj
  obtain ⟨own, fr', m', F', N', t', O', kq'⟩ := key
  refine bk_of F N hL hf t _ _ _ _ (F'.keeps kk) (fun p hp => ⟨kk _ _ (N' p hp).1, (N' p hp).2⟩) t' O' _ fun fr'' T5 F5 N5 O5 => ⟨own, fr'', T5, F5, N5, O5, kq'⟩
theorem gj_gen {h₀ h : Heap} {C I l a : Addr} {lst : List Env} {frX own₀ : Led} {g i : Nat} {nm qn : Value} {mg mb : Str → Option Value} {p : Program} {loose : List Str} {mean : ExcName → Option Value} (T : Top p loose mean mg mb h₀)
    (ma : (a, ({ cls := .type "generator", data := .fields #[.int g 0, nm, qn] } : Obj)) ∈ own₀) (J : GJ h₀ C I l lst frX own₀ i h) : h.IsGen a g ∧ h.NoLimit := by
  obtain ⟨own, fr, m, oI, F, N, t, O, kq, _⟩ := J
  exact ⟨⟨_, _, _, (N _ (List.mem_append_left _ (kq _ ma))).1, rfl, rfl, rfl⟩, T.nolimit.keeps F.keep⟩
/-- what a def answers that makes a generator -/
def ConG (w : World) (f : Addr) (D U : Nat) (args : List Value) (own : Led) (R : Value → Led → Prop) : Prop :=
  ∀ {prog : Program} {A : Around} {E Q : Value → Shared → Prop} {s : Shared} {h₀ : Heap} {L : Addr} {m mg mb : Str → Option Value} {env : Env} {outer : List Env} {fr₁ fr : Led} {p : Program} {loose : List Str} {mean : ExcName → Option Value},
    Fits A D U (env :: outer) → env.frame = some L → env.scope.kind = .function → Fr h₀ L s.heap m → (Mine.hd.heap_39 w.params).In h₀ → Top p loose mean mg mb h₀ → News h₀ L s.heap (own ++ fr) → Tl outer fr₁ fr → Off own outer → AllBare s.gens →
    (∀ (v : Value) (s' : Shared) (own' fr' : Led), AllBare s'.gens → s'.os = s.os → Tl outer fr₁ fr' → Fr h₀ L s'.heap m → News h₀ L s'.heap (own' ++ fr') → Off own' outer → R v own' → Q v s') →
    wpAny (model prog w) A (call (.ref f) args) Q E s
theorem code_eq {w : World} {h₀ h : Heap} {L : Addr} {m : Str → Option Value} (X : (Mine.hd.heap_39 w.params).In h₀) (F : Fr h₀ L h m) (hP : h.get? 74 = some (tbl #[])) : h.IsCode 78 74 #[] ∧ h.TableAt 78 74 #[] := by
  have ho := F.keep _ _ (X 78 _ (by k_is))
  exact ⟨⟨_, _, _, _, _, _, _, _, _, _, ho, rfl, rfl, rfl, rfl, rfl, rfl, hP, rfl, trivial, by decide⟩, ⟨_, _, ho, rfl, rfl, rfl⟩, hP⟩
theorem c_eql {w : World} {own : Led} {S D Ls l : Addr} {xs ys : List Value} {n2 : Nat} (h : SetAt own S D Ls xs) (hl : (l, listOf ys.toArray n2) ∈ own) (hy : ∀ y ∈ ys, Th y) (hz : xs.length ≤ 400) (hz2 : ys.length ≤ 400) (hP : (74, tbl #[]) ∈ own) :
    ConG w 79 335 380 [.ref S, .ref l] own (fun v own' => Kp 74 own own' ∧ (∃ ps, (74, tbl ps) ∈ own') ∧ v = .bool (decide (ys.length = xs.length) && ys.all (has xs))) := by
  obtain ⟨hS, ⟨hsh, tk, hD⟩, ⟨n, hL⟩, hth, hn1, hn2, hn3⟩ := id h
  intro prog A E Q s h₀ L m mg mb env outer fr₁ fr p loose mean hA hf hk F X T N t O B k
  refine enterCell (K := Mine.hd.heap_39 w.params) (args := ⟨[.ref S, .ref l], []⟩) (binds := [("self", .ref S), ("other", .ref l)]) hA hf hk F X T N t O (by k_is) (by k_is) (by decide) (BindsTo.of_eq rfl) rfl (by decide +kernel) ?_ rfl rfl rfl
  intro L' h₁ tk₁ fr₂ cells F' N' Y t' Oc O' nc bk
  refine PySem.wpAny_noRaise ?_
  obtain ⟨oc, rfl, dc⟩ := CellsAre.one Y
  have dc' : oc.data = .cell (some (.ref S)) := dc
  have N2 : News h₀ L' h₁ (((L' + 1, oc) :: own) ++ fr₂) := N'
  have O2 : Off ((L' + 1, oc) :: own) (env :: outer) := Off.cons (Oc _ (.head _)) O'
  have hC : (L' + 1, oc) ∈ (L' + 1, oc) :: own := .head _
  have kqC : Kq own ((L' + 1, oc) :: own) := Kq.cons
  have F2 : Fr h₀ L' h₁ (fun y => if y = ("other" : Str) then some (.ref l) else none) := F'
  generalize ((L' + 1, oc) :: own) = ownC at N2 O2 hC kqC
  clear N' Y nc Oc dc F N t O F' O'
  try dsimp only
  ktr_unf
  · unfold Hold
    have NC : ∀ {q : Addr} {o : Obj}, (q, o) ∈ ownC → o ≠ tbl #[] → q ≠ 74 := fun hq n => ne_of_objs N2 (List.mem_append_left _ hq) (List.mem_append_left _ (kqC _ hP)) n
    have s1 : S ≠ 74 := NC (kqC _ hS) (fun e => by cases e)
    have s2 : D ≠ 74 := NC (kqC _ hD) (fun e => by cases e)
    have s3 : Ls ≠ 74 := NC (kqC _ hL) (fun e => by cases e)
    have s4 : l ≠ 74 := NC (kqC _ hl) (fun e => by cases e)
    have s5 : L' + 1 ≠ 74 := NC hC (fun e => by rw [e] at dc'; cases dc')
    have tab := code_eq X F2 (N2 _ (List.mem_append_left _ (kqC _ hP))).1
    refine u_gexp (P := 74) (c := 78) (l := l) (ys := ys) (n2 := n2) rfl (show 336 < recursionLimit by decide) rfl (by with_unfolding_all rfl) (by decide) (by with_unfolding_all rfl) rfl rfl rfl rfl rfl F2 N2 t' O2 T B (kqC _ hl) tab.1 tab.2 (kqC _ hP) ?hi ?h (fun _ => rfl)
    case hi => ktr_unf
    case h =>
      intro a C I code s' ps nm qn own₀ oL hos B' hgs kp mP ma nI hoL F3 N3 O3 J
      clear F2 N2 O2
      ktr_unf
      unfold Hold
      have h₀' : SetAt own₀ S D Ls xs := setAt_by h (fun o ho => kp _ (kqC _ ho) s1) (fun o ho => kp _ (kqC _ ho) s2) (fun o ho => kp _ (kqC _ ho) s3)
      refine all_gen rfl (show 336 < recursionLimit by decide) rfl (gj_turn (frX := (L', oL) :: fr₂) (own₀ := own₀) ⟨rfl, show 336 ≤ 359 by decide, rfl, rfl, show 385 ≤ 697 by decide⟩ X T rfl (by with_unfolding_all rfl) (by with_unfolding_all rfl) (cS := L' + 1) (by with_unfolding_all rfl) (kp _ hC s5) dc' h₀' (by omega) (kp _ (kqC _ hl) s4) hy nI false) (fun i hh hJ => gj_gen T ma hJ) hgs J B' fun s2 fin => ?_
      obtain ⟨own', fr', T5, F5, N5, O5, kq5⟩ := gj_back fin F3 N3 hoL rfl t'
      refine bk _ _ _ _ F5 N5 T5 O5 _ fun fr6 T6 F6 N6 O6 => ?_
      refine k _ _ own' fr6 fin.1 (fin.2.1.trans hos) T6 F6 N6 O6 ⟨fun q hq n => kq5 _ (kp _ (kqC _ hq) n), ⟨ps, kq5 _ mP⟩, ?_⟩
      rename (_ = _) => hne
      have hlen : ys.length = xs.length := by omega
      simp only [Bool.false_xor]
      rw [range_all ys (has xs), decide_eq_true hlen, Bool.true_and]
  · refine bk _ _ _ _ F2 N2 t' O2 _ fun fr6 T6 F6 N6 O6 => ?_
    refine k _ _ ownC fr6 ?b1 ?b2 T6 F6 N6 O6 ⟨fun q hq n => kqC _ hq, ⟨_, kqC _ hP⟩, ?b3⟩
    case b1 => exact B
    case b2 => rfl
    rename (_ ≠ _) => hne
    have hlen : ¬ ys.length = xs.length := by omega
    rw [decide_eq_false hlen, Bool.false_and]
    exact congrArg Value.bool (beq_eq_false_iff_ne.mpr hne)
theorem code_ne {w : World} {h₀ h : Heap} {L : Addr} {m : Str → Option Value} (X : (Mine.hd.heap_39 w.params).In h₀) (F : Fr h₀ L h m) (hP : h.get? 81 = some (tbl #[])) : h.IsCode 85 81 #[] ∧ h.TableAt 85 81 #[] := by
  have ho := F.keep _ _ (X 85 _ (by k_is))
  exact ⟨⟨_, _, _, _, _, _, _, _, _, _, ho, rfl, rfl, rfl, rfl, rfl, rfl, hP, rfl, trivial, by decide⟩, ⟨_, _, ho, rfl, rfl, rfl⟩, hP⟩
theorem c_nel {w : World} {own : Led} {S D Ls l : Addr} {xs ys : List Value} {n2 : Nat} (h : SetAt own S D Ls xs) (hl : (l, listOf ys.toArray n2) ∈ own) (hy : ∀ y ∈ ys, Th y) (hz : xs.length ≤ 400) (hz2 : ys.length ≤ 400) (hP : (81, tbl #[]) ∈ own) :
    ConG w 86 335 380 [.ref S, .ref l] own (fun v own' => Kp 81 own own' ∧ (∃ ps, (81, tbl ps) ∈ own') ∧ v = .bool (!decide (ys.length = xs.length) || ys.any fun y => !has xs y)) := by
  obtain ⟨hS, ⟨hsh, tk, hD⟩, ⟨n, hL⟩, hth, hn1, hn2, hn3⟩ := id h
  intro prog A E Q s h₀ L m mg mb env outer fr₁ fr p loose mean hA hf hk F X T N t O B k
  refine enterCell (K := Mine.hd.heap_39 w.params) (args := ⟨[.ref S, .ref l], []⟩) (binds := [("self", .ref S), ("other", .ref l)]) hA hf hk F X T N t O (by k_is) (by k_is) (by decide) (BindsTo.of_eq rfl) rfl (by decide +kernel) ?_ rfl rfl rfl
  intro L' h₁ tk₁ fr₂ cells F' N' Y t' Oc O' nc bk
  refine PySem.wpAny_noRaise ?_
  obtain ⟨oc, rfl, dc⟩ := CellsAre.one Y
  have dc' : oc.data = .cell (some (.ref S)) := dc
  have N2 : News h₀ L' h₁ (((L' + 1, oc) :: own) ++ fr₂) := N'
  have O2 : Off ((L' + 1, oc) :: own) (env :: outer) := Off.cons (Oc _ (.head _)) O'
  have hC : (L' + 1, oc) ∈ (L' + 1, oc) :: own := .head _
  have kqC : Kq own ((L' + 1, oc) :: own) := Kq.cons
  have F2 : Fr h₀ L' h₁ (fun y => if y = ("other" : Str) then some (.ref l) else none) := F'
  generalize ((L' + 1, oc) :: own) = ownC at N2 O2 hC kqC
  clear N' Y nc Oc dc F N t O F' O'
  try dsimp only
  ktr_unf
  · refine bk _ _ _ _ F2 N2 t' O2 _ fun fr6 T6 F6 N6 O6 => ?_
    refine k _ _ ownC fr6 ?b1 ?b2 T6 F6 N6 O6 ⟨fun q hq n => kqC _ hq, ⟨_, kqC _ hP⟩, ?b3⟩
    case b1 => exact B
    case b2 => rfl
    rename (_ ≠ _) => hne
    have hlen : ¬ ys.length = xs.length := by omega
    rw [decide_eq_false hlen, Bool.not_false, Bool.true_or]
    exact congrArg Value.bool (bne_iff_ne.mpr hne)
  · unfold Hold
    have NC : ∀ {q : Addr} {o : Obj}, (q, o) ∈ ownC → o ≠ tbl #[] → q ≠ 81 := fun hq n => ne_of_objs N2 (List.mem_append_left _ hq) (List.mem_append_left _ (kqC _ hP)) n
    have s1 : S ≠ 81 := NC (kqC _ hS) (fun e => by cases e)
    have s2 : D ≠ 81 := NC (kqC _ hD) (fun e => by cases e)
    have s3 : Ls ≠ 81 := NC (kqC _ hL) (fun e => by cases e)
    have s4 : l ≠ 81 := NC (kqC _ hl) (fun e => by cases e)
    have s5 : L' + 1 ≠ 81 := NC hC (fun e => by rw [e] at dc'; cases dc')
    have tab := code_ne X F2 (N2 _ (List.mem_append_left _ (kqC _ hP))).1
    refine u_gexp (P := 81) (c := 85) (l := l) (ys := ys) (n2 := n2) rfl (show 336 < recursionLimit by decide) rfl (by with_unfolding_all rfl) (by decide) (by with_unfolding_all rfl) rfl rfl rfl rfl rfl F2 N2 t' O2 T B (kqC _ hl) tab.1 tab.2 (kqC _ hP) ?hi ?h (fun _ => rfl)
    case hi => ktr_unf
    case h =>
      intro a C I code s' ps nm qn own₀ oL hos B' hgs kp mP ma nI hoL F3 N3 O3 J
      clear F2 N2 O2
      ktr_unf
      unfold Hold
      have h₀' : SetAt own₀ S D Ls xs := setAt_by h (fun o ho => kp _ (kqC _ ho) s1) (fun o ho => kp _ (kqC _ ho) s2) (fun o ho => kp _ (kqC _ ho) s3)
      refine any_gen rfl (show 336 < recursionLimit by decide) rfl (gj_turn (frX := (L', oL) :: fr₂) (own₀ := own₀) ⟨rfl, show 336 ≤ 359 by decide, rfl, rfl, show 385 ≤ 697 by decide⟩ X T rfl (by with_unfolding_all rfl) (by with_unfolding_all rfl) (cS := L' + 1) (by with_unfolding_all rfl) (kp _ hC s5) dc' h₀' (by omega) (kp _ (kqC _ hl) s4) hy nI true) (fun i hh hJ => gj_gen T ma hJ) hgs J B' fun s2 fin => ?_
      obtain ⟨own', fr', T5, F5, N5, O5, kq5⟩ := gj_back fin F3 N3 hoL rfl t'
      refine bk _ _ _ _ F5 N5 T5 O5 _ fun fr6 T6 F6 N6 O6 => ?_
      refine k _ _ own' fr6 fin.1 (fin.2.1.trans hos) T6 F6 N6 O6 ⟨fun q hq n => kq5 _ (kp _ (kqC _ hq) n), ⟨ps, kq5 _ mP⟩, ?_⟩
      rename (_ = _) => hne
      have hlen : ys.length = xs.length := by omega
      simp only [Bool.true_xor]
      rw [range_any ys (fun y => !has xs y), decide_eq_true hlen]; rfl
end
local macro_rules | `(tactic| walk_at "none") => `(tactic| fail)
local macro_rules | `(tactic| walk_at "none") => `(tactic| fail)
local macro_rules | `(tactic| walk_at "none") => `(tactic| fail)
local macro_rules | `(tactic| walk_at "none") => `(tactic| fail)
local macro_rules | `(tactic| walk_at "none") => `(tactic| fail)
section
example : True := by w_top off; trivial
theorem ConG.use {w : World} {f : Addr} {D U : Nat} {args : List Value} {own : Led} {R : Value → Led → Prop} (c : ConG w f D U args own R)
    {prog : Program} {A : Around} {E Q : Value → Shared → Prop} {s : Shared} {h₀ : Heap} {L : Addr} {m mg mb : Str → Option Value} {env : Env} {outer : List Env} {fr₁ fr news : Led} {p : Program} {loose : List Str} {mean : ExcName → Option Value}
    (hA : Fits A D U (env :: outer)) (hf : env.frame = some L) (hk : env.scope.kind = .function) (F : Fr h₀ L s.heap m) (X : (Mine.hd.heap_39 w.params).In h₀) (T : Top p loose mean mg mb h₀) (N : News h₀ L s.heap news) (hc : Cut news own fr) (t : Tl outer fr₁ fr) (O : Off own outer) (B : AllBare s.gens)
    (k : ∀ (v : Value) (s' : Shared) (own' fr' : Led), AllBare s'.gens → s'.os = s.os → Tl outer fr₁ fr' → Fr h₀ L s'.heap m → News h₀ L s'.heap (own' ++ fr') → Off own' outer → R v own' → Q v s') :
    wpAny (model prog w) A (call (.ref f) args) Q E s := by
  unfold Cut at hc
  subst hc
  exact c hA hf hk F X T N t O B k
/-- what statements of the law do that may make a generator -/
def BlkG (w : World) (L : Addr) (blk : List Stmt) (b : List (Str × Value)) (own : Led) (R : List (Str × Value) → Led → Prop) : Prop :=
  ∀ {sc : Scope} {prog : Program} {Q : Flow → Shared → Prop} {s : Shared} {h₀ : Heap} {fa : Addr} {cd : Value} {mg mb u : Str → Option Value} {p : Program} {loose : List Str} {mean : ExcName → Option Value} {fr₁ fr : Led},
    sc = lawScope → AllBare s.gens → Fr h₀ L s.heap (kb b u) → (Mine.hd.heap_39 w.params).In h₀ → Top p loose mean mg mb h₀ → News h₀ L s.heap (own ++ fr) → Tl [] fr₁ fr → Off own [] →
    (∀ s' own' fr' b' u', AllBare s'.gens → s'.os = s.os → Tl [] fr₁ fr' → Fr h₀ L s'.heap (kb b' u') → News h₀ L s'.heap (own' ++ fr') → Off own' [] → R b' own' → Q .next s') →
    wpAny (model prog w) (AC 302 7 [envOfC "law" sc L fa cd]) (execs blk (envOfC "law" sc L fa cd)) Q (fun _ _ => False) s
theorem BlkG.use {w : World} {L : Addr} {blk : List Stmt} {b : List (Str × Value)} {own : Led} {R : List (Str × Value) → Led → Prop} (c : BlkG w L blk b own R) {blk' : List Stmt} (hb : blk' = blk)
    {sc : Scope} {prog : Program} {Q : Flow → Shared → Prop} {s : Shared} {h₀ : Heap} {fa : Addr} {cd : Value} {m mg mb : Str → Option Value} {p : Program} {loose : List Str} {mean : ExcName → Option Value} {fr₁ fr news : Led}
    (hs : sc = lawScope) (B : AllBare s.gens) (F : Fr h₀ L s.heap m) (hm : kbOk m b) (X : (Mine.hd.heap_39 w.params).In h₀) (T : Top p loose mean mg mb h₀) (N : News h₀ L s.heap news) (hc : Cut news own fr) (t : Tl [] fr₁ fr) (O : Off own [])
    (k : ∀ s' own' fr' b' u', AllBare s'.gens → s'.os = s.os → Tl [] fr₁ fr' → Fr h₀ L s'.heap (kb b' u') → News h₀ L s'.heap (own' ++ fr') → Off own' [] → R b' own' → Q .next s') :
    wpAny (model prog w) (AC 302 7 [envOfC "law" sc L fa cd]) (execs blk' (envOfC "law" sc L fa cd)) Q (fun _ _ => False) s := by
  subst hb
  unfold Cut at hc
  subst hc
  exact c hs B (fr_binds F hm) X T N t O k
def BlkGE (w : World) (L : Addr) (st : Stmt) (b : List (Str × Value)) (own : Led) (R : List (Str × Value) → Led → Prop) : Prop :=
  ∀ {sc : Scope} {prog : Program} {Q : Flow → Shared → Prop} {s : Shared} {h₀ : Heap} {fa : Addr} {cd : Value} {mg mb u : Str → Option Value} {p : Program} {loose : List Str} {mean : ExcName → Option Value} {fr₁ fr : Led},
    sc = lawScope → AllBare s.gens → Fr h₀ L s.heap (kb b u) → (Mine.hd.heap_39 w.params).In h₀ → Top p loose mean mg mb h₀ → News h₀ L s.heap (own ++ fr) → Tl [] fr₁ fr → Off own [] →
    (∀ s' own' fr' b' u', AllBare s'.gens → s'.os = s.os → Tl [] fr₁ fr' → Fr h₀ L s'.heap (kb b' u') → News h₀ L s'.heap (own' ++ fr') → Off own' [] → R b' own' → Q .next s') →
    wpAny (model prog w) (AC 302 7 [envOfC "law" sc L fa cd]) (exec st (envOfC "law" sc L fa cd)) Q (fun _ _ => False) s
theorem BlkGE.use {w : World} {L : Addr} {blk : Stmt} {b : List (Str × Value)} {own : Led} {R : List (Str × Value) → Led → Prop} (c : BlkGE w L blk b own R) {blk' : Stmt} (hb : blk' = blk)
    {sc : Scope} {prog : Program} {Q : Flow → Shared → Prop} {s : Shared} {h₀ : Heap} {fa : Addr} {cd : Value} {m mg mb : Str → Option Value} {p : Program} {loose : List Str} {mean : ExcName → Option Value} {fr₁ fr news : Led}
    (hs : sc = lawScope) (B : AllBare s.gens) (F : Fr h₀ L s.heap m) (hm : kbOk m b) (X : (Mine.hd.heap_39 w.params).In h₀) (T : Top p loose mean mg mb h₀) (N : News h₀ L s.heap news) (hc : Cut news own fr) (t : Tl [] fr₁ fr) (O : Off own [])
    (k : ∀ s' own' fr' b' u', AllBare s'.gens → s'.os = s.os → Tl [] fr₁ fr' → Fr h₀ L s'.heap (kb b' u') → News h₀ L s'.heap (own' ++ fr') → Off own' [] → R b' own' → Q .next s') :
    wpAny (model prog w) (AC 302 7 [envOfC "law" sc L fa cd]) (exec blk' (envOfC "law" sc L fa cd)) Q (fun _ _ => False) s := by
  subst hb
  unfold Cut at hc
  subst hc
  exact c hs B (fr_binds F hm) X T N t O k
/-- all but the two tables stay -/
def Kt (own own' : Led) : Prop := ∀ p ∈ own, p.1 ≠ 74 → p.1 ≠ 81 → p ∈ own'
section
variable {prog : Program} {w : World} {A : Around} {E Q : Value → Shared → Prop} {s : Shared} {h₀ : Heap} {L S D f l : Addr} {m : Str → Option Value} {news : Led} {es : List DictEntry} {k1 n : Nat} {op : CmpOp} {ys : List Value}
theorem cmp_setl (F : Fr h₀ L s.heap m) (X : (Mine.hd.heap_39 w.params).In h₀) (N : News h₀ L s.heap news) (h1 : (S, instObj 306 D) ∈ news) (h2 : (D, dictOf es k1) ∈ news) (hl : (l, listOf ys.toArray n) ∈ news) (hu : A.units < cLine)
    (hn : notFirst (Mine.hd.heap_39 w.params) 306 (.type "list") = true) (hs : findIn (Mine.hd.heap_39 w.params) (.ref 306) (cmpInfo op).2.1 = some (some (.ref f))) (hf : isFn (Mine.hd.heap_39 w.params) (.ref f) = true)
    (h : wpAny (model prog w) A (call (.ref f) [.ref S, .ref l]) (PySem.W.CmpBack Q) E s) : wpAny (model prog w) A (richCompare op (.ref S) (.ref l)) Q E s := by
  have ho := (N _ hl).1
  refine PySem.W.cmp_K (C := 306) hu F X (InstAt.of_news N h1 h2) (fun A Q E s' k q => ?_) hn hs hf h
  exact wpAny_typeOf (T := "list") ⟨_, k _ _ ho, rfl⟩ q
end
local macro_rules | `(tactic| walk_at "compareOp Eq ref ref") => `(tactic| (k_here; (with_reducible show wpAny _ _ (compareOp _ (Value.ref _) (Value.ref _)) _ _ _); k_dflt ((refine cmp_ofEq ?_); (refine' cmp_setl (f := 79) ?F ?X ?N ?h1 ?h2 ?h3 ?u ?n ?s ?f ?_); (case F => k_asm); (case X => k_asm); (case N => k_asm); (case h1 => kst_mem); (case h2 => kst_mem); (case h3 => kst_mem); (case u => exact Nat.le_of_ble_eq_true rfl); (case n => k_is); (case s => k_is); (case f => k_is))))
local macro_rules | `(tactic| walk_at "compareOp NotEq ref ref") => `(tactic| (k_here; (with_reducible show wpAny _ _ (compareOp _ (Value.ref _) (Value.ref _)) _ _ _); k_dflt ((refine cmp_ofNotEq ?_); (refine' cmp_setl (f := 86) ?F ?X ?N ?h1 ?h2 ?h3 ?u ?n ?s ?f ?_); (case F => k_asm); (case X => k_asm); (case N => k_asm); (case h1 => kst_mem); (case h2 => kst_mem); (case h3 => kst_mem); (case u => exact Nat.le_of_ble_eq_true rfl); (case n => k_is); (case s => k_is); (case f => k_is))))
local macro_rules | `(tactic| walk_at "call ref") => `(tactic| (k_here; (with_reducible show wpAny _ _ (call (Value.ref 79) [_, Value.ref _]) _ _ _); k_dflt ((refine' ConG.use ?c ?hA ?hf ?hk ?F ?X ?T ?N ?hc ?t ?O ?B (fun v9 s9 own9 fr9 B9 os9 T9 F9 N9 O9 R9 => ?_)); (case N => k_asm); (case hc => acc_binds); (case c => exact c_eql (by acc_peel) (by kst_mem) (by with_reducible assumption) (by omega) (by first | omega | (rw [List.length_reverse]; omega)) (by kst_mem)); (case hA => acc_state); (case hf => rfl); (case hk => rfl); (case F => k_asm); (case X => k_asm); (case T => k_asm); (case t => with_reducible assumption); (case O => acc_keepN); (case B => assumption); (obtain ⟨kp9, ⟨ps9, tm9⟩, e8⟩ := R9; subst e8))))
local macro_rules | `(tactic| walk_at "call ref") => `(tactic| (k_here; (with_reducible show wpAny _ _ (call (Value.ref 86) [_, Value.ref _]) _ _ _); k_dflt ((refine' ConG.use ?c ?hA ?hf ?hk ?F ?X ?T ?N ?hc ?t ?O ?B (fun v9 s9 own9 fr9 B9 os9 T9 F9 N9 O9 R9 => ?_)); (case N => k_asm); (case hc => acc_binds); (case c => exact c_nel (by acc_peel) (by kst_mem) (by with_reducible assumption) (by omega) (by first | omega | (rw [List.length_reverse]; omega)) (by kst_mem)); (case hA => acc_state); (case hf => rfl); (case hk => rfl); (case F => k_asm); (case X => k_asm); (case T => k_asm); (case t => with_reducible assumption); (case O => acc_keepN); (case B => assumption); (obtain ⟨kp9, ⟨ps9, tm9⟩, e8⟩ := R9; subst e8))))

theorem q_rne {d xs ys : List Value} (D : Dom d) (g : Good d xs) (k : Good d ys) : (!decide (ys.reverse.length = xs.length) || ys.reverse.any fun y => !has xs y) = !((only xs ys false).isEmpty && (only ys xs false).isEmpty) := by
  rw [← q_rev D g k, Bool.not_and, List.not_all_eq_any_not]
theorem q_2g {w : World} {d : List Value} {own : Led} {L S D Ls T E Lt r q lL lM sm NL : Addr} {TT : Value} {xs ys : List Value} {z1 z2 : Value} {nr nq nl nm ns : Nat} {o1 oa : Obj} {qn : Int} {tq : Tok} (hP : (74, tbl #[]) ∈ own) (hP2 : (81, tbl #[]) ∈ own) (hd : QIn d own L S D Ls T E Lt r q lL lM sm xs ys z1 z2 nr nq nl nm ns o1 oa) :
    BlkG w L (branch 1 [lawSt 8]) (bQ T q lL lM sm NL TT qn tq) own (fun b' own' => ∃ a b ps1 ps2, b' = bE T q lL lM sm NL TT qn tq a b ∧ Kt own own' ∧ (74, tbl ps1) ∈ own' ∧ (81, tbl ps2) ∈ own' ∧ Same own' a b) := by
  obtain ⟨dom, htc, hdl, s1, s2, hr, hq, hl, hm, hs, gx, gy, z1d, z2d, hc1, e1, hca, ea⟩ := hd
  have hT : ∀ y ∈ d, Th y := fun y hy => (htc y hy).th
  have gxT := mem_th hT gx.mem
  have gyT := mem_th hT gy.mem
  have glT := mem_th hT (only_good (ys := ys) gx false).mem
  have gmT := mem_th hT (only_good (ys := xs) gy false).mem
  have gsd : ∀ y ∈ [z1, z2], y ∈ d := fun y hy => by
    rcases List.mem_cons.mp hy with rfl | hy
    · exact z1d
    · exact List.mem_singleton.mp hy ▸ z2d
  have gsT := mem_th hT gsd
  have gnT : ∀ y ∈ ([] : List Value), Th y := fun y hy => by cases hy
  have grT : ∀ y ∈ ys.reverse, Th y := fun y hy => gyT y (List.mem_reverse.mp hy)
  have xl := good_len dom gx hdl
  have yl := good_len dom gy hdl
  have ll := good_len dom (only_good (ys := ys) gx false) hdl
  have ml := good_len dom (only_good (ys := xs) gy false) hdl
  have sl : ([z1, z2] : List Value).length ≤ 1000 := Nat.le_of_ble_eq_true rfl
  obtain ⟨hS, ⟨hsh, tk, hD⟩, ⟨nL, hL⟩, hth, m1, m2, m3⟩ := id s1
  obtain ⟨hS2, ⟨hsh2, tk2, hD2⟩, ⟨nL2, hL2⟩, hth2, m4, m5, m6⟩ := id s2
  intro sc prog Q s h₀ fa cd mg mb u p loose mean fr₁ fr hs' BA F X Tp N tl O kk
  have NE : ∀ {c : Addr} {o : Obj}, (c, o) ∈ own → o ≠ tbl #[] → c ≠ 74 ∧ c ≠ 81 := fun hc n => ⟨ne_of_objs N (List.mem_append_left _ hc) (List.mem_append_left _ hP) n, ne_of_objs N (List.mem_append_left _ hc) (List.mem_append_left _ hP2) n⟩
  obtain ⟨z0a, z0b⟩ := NE hS (fun e => by cases e)
  obtain ⟨z1a, z1b⟩ := NE hD (fun e => by cases e)
  obtain ⟨z2a, z2b⟩ := NE hL (fun e => by cases e)
  obtain ⟨z3a, z3b⟩ := NE hS2 (fun e => by cases e)
  obtain ⟨z4a, z4b⟩ := NE hD2 (fun e => by cases e)
  obtain ⟨z5a, z5b⟩ := NE hL2 (fun e => by cases e)
  obtain ⟨z6a, z6b⟩ := NE hr (fun e => by cases e)
  obtain ⟨z7a, z7b⟩ := NE hq (fun e => by cases e)
  obtain ⟨z8a, z8b⟩ := NE hl (fun e => by cases e)
  obtain ⟨z9a, z9b⟩ := NE hm (fun e => by cases e)
  obtain ⟨z10a, z10b⟩ := NE hs (fun e => by cases e)
  obtain ⟨y1a, y1b⟩ := NE hc1 (fun e => by rw [e] at e1; cases e1)
  obtain ⟨y2a, y2b⟩ := NE hca (fun e => by rw [e] at ea; cases ea)
  generalize hb : branch 1 [lawSt 8] = blk
  conv at hb => lhs; whnf
  conv at hs' => rhs; whnf
  subst hb
  subst hs'
  try dsimp only
  ktr_unf
  all_goals (
    (rename (List.isEmpty _ = _) => he; rename (eqL _ [] = _) => he2)
    rw [eqL_nil, he] at he2
    (rename Fr h₀ L _ _ => FZ; rename News h₀ L _ _ => NZ; rename Tl [] _ _ => TZ; rename Off _ [] => OZ; rename AllBare _ => BZ)
    refine kk _ _ _ _ _ ?_ ?_ TZ (fr_binds FZ (ps := bE T q lL lM sm NL TT qn tq _ _) (by exact ⟨rfl, rfl, rfl, rfl, rfl, rfl, rfl, rfl, rfl, rfl, trivial⟩)) (fun p hp => NZ p (.tail _ hp)) OZ ⟨_, _, _, _, rfl, fun p hp n1 n2 => by kst_mem, by kst_mem, by kst_mem, ⟨_, _, _, _, by kst_mem, by kst_mem, by rfl, fun j hj => ?_⟩⟩
    · exact BZ
    · (rename (Shared.os _ = Shared.os _) => os2; refine Eq.trans (show _ from os2) ?_; clear os2; assumption)
    rcases j with _ | _ | _ | j
    · exact eqv_bool (q_dis dom gx gy)
    · exact eqv_bool (by rw [q_rev dom gx gy, he]; simp)
    · first | exact absurd he2 (by decide) | exact eqv_bool (by rw [q_rne dom gx gy]; simp only [eqL_nil, he, Bool.true_and, Bool.false_and])
    · exact absurd hj (by simp))
end
local macro_rules | `(tactic| walk_at "none") => `(tactic| fail)
local macro_rules | `(tactic| walk_at "none") => `(tactic| fail)
local macro_rules | `(tactic| walk_at "none") => `(tactic| fail)
local macro_rules | `(tactic| walk_at "none") => `(tactic| fail)
section
example : True := by w_top off; trivial
local macro_rules | `(tactic| walk_at "execs cons") => `(tactic| refine Hold.of ?_)
theorem qchain {w : World} {d : List Value} {own : Led} {L S D Ls T E Lt r q lL lM sm NL a0 b0 : Addr} {TT : Value} {xs ys : List Value} {z1 z2 : Value} {nr nq nl nm ns : Nat} {o1 oa : Obj} {qn : Int} {tq : Tok} (hd : QIn d own L S D Ls T E Lt r q lL lM sm xs ys z1 z2 nr nq nl nm ns o1 oa) (hP : (74, tbl #[]) ∈ own) (hP2 : (81, tbl #[]) ∈ own) (sm0 : Same own a0 b0) :
    BlkGE w L (lawSt 8) (bE T q lL lM sm NL TT qn tq a0 b0) own (fun b' own' => ∃ a b ps1 ps2, b' = bE T q lL lM sm NL TT qn tq a b ∧ Kt own own' ∧ (74, tbl ps1) ∈ own' ∧ (81, tbl ps2) ∈ own' ∧ Same own' a b) := by
  intro sc prog Q s h₀ fa cd mg mb u p loose mean fr₁ fr hs' BA F X Tp N tl O kk
  have hs2 := hs'
  generalize hb : lawSt 8 = blk
  conv at hb => lhs; whnf
  conv at hs' => rhs; whnf
  subst hb
  subst hs'
  try dsimp only
  ktr_unf
  ·
    unfold Hold
    refine BlkC.use (q_1 hd (NL := NL) (TT := TT) (qn := qn) (tq := tq)) (by rfl) hs2 F (by exact ⟨rfl, rfl, rfl, rfl, rfl, rfl, rfl, rfl, trivial⟩) X Tp N Cut.base tl O fun h' tk' own' fr' b' u' T' F' N' O' R' => ?_
    clear F N tl O
    ktr_unf
    (obtain ⟨a9, b9, e9, kq9, sm9⟩ := R'); exact kk _ _ _ _ _ BA rfl T' F' N' O' ⟨a9, b9, _, _, e9, fun p hp _ _ => kq9 p hp, kq9 _ hP, kq9 _ hP2, sm9⟩
  ·
    unfold Hold
    refine wpAny_execs_cons ?_
    ktr_unf
    ·
      unfold Hold
      refine BlkG.use (q_2g hP hP2 hd (NL := NL) (TT := TT) (qn := qn) (tq := tq)) (by rfl) hs2 BA F (by exact ⟨rfl, rfl, rfl, rfl, rfl, rfl, rfl, rfl, trivial⟩) X Tp N Cut.base tl O fun s7 own' fr' b' u' B' os' T' F' N' O' R' => ?_
      clear F N tl O
      ktr_unf
      exact kk _ _ _ _ _ B' os' T' F' N' O' R'
    ·
      unfold Hold
      refine wpAny_execs_cons ?_
      ktr_unf
      ·
        unfold Hold
        refine BlkC.use (q_3 hd (NL := NL) (TT := TT) (qn := qn) (tq := tq)) (by rfl) hs2 F (by exact ⟨rfl, rfl, rfl, rfl, rfl, rfl, rfl, rfl, trivial⟩) X Tp N Cut.base tl O fun h' tk' own' fr' b' u' T' F' N' O' R' => ?_
        clear F N tl O
        ktr_unf
        (obtain ⟨a9, b9, e9, kq9, sm9⟩ := R'); exact kk _ _ _ _ _ BA rfl T' F' N' O' ⟨a9, b9, _, _, e9, fun p hp _ _ => kq9 p hp, kq9 _ hP, kq9 _ hP2, sm9⟩
      ·
        unfold Hold
        refine wpAny_execs_cons ?_
        ktr_unf
        ·
          unfold Hold
          refine BlkC.use (q_4 hd (NL := NL) (TT := TT) (qn := qn) (tq := tq)) (by rfl) hs2 F (by exact ⟨rfl, rfl, rfl, rfl, rfl, rfl, rfl, rfl, trivial⟩) X Tp N Cut.base tl O fun h' tk' own' fr' b' u' T' F' N' O' R' => ?_
          clear F N tl O
          ktr_unf
          (obtain ⟨a9, b9, e9, kq9, sm9⟩ := R'); exact kk _ _ _ _ _ BA rfl T' F' N' O' ⟨a9, b9, _, _, e9, fun p hp _ _ => kq9 p hp, kq9 _ hP, kq9 _ hP2, sm9⟩
        ·
          unfold Hold
          refine wpAny_execs_cons ?_
          ktr_unf
          ·
            unfold Hold
            refine BlkC.use (q_5 hd (NL := NL) (TT := TT) (qn := qn) (tq := tq)) (by rfl) hs2 F (by exact ⟨rfl, rfl, rfl, rfl, rfl, rfl, rfl, rfl, trivial⟩) X Tp N Cut.base tl O fun h' tk' own' fr' b' u' T' F' N' O' R' => ?_
            clear F N tl O
            ktr_unf
            (obtain ⟨a9, b9, e9, kq9, sm9⟩ := R'); exact kk _ _ _ _ _ BA rfl T' F' N' O' ⟨a9, b9, _, _, e9, fun p hp _ _ => kq9 p hp, kq9 _ hP, kq9 _ hP2, sm9⟩
          ·
            unfold Hold
            refine wpAny_execs_cons ?_
            ktr_unf
            ·
              unfold Hold
              refine BlkC.use (q_6 hd (NL := NL) (TT := TT) (qn := qn) (tq := tq)) (by rfl) hs2 F (by exact ⟨rfl, rfl, rfl, rfl, rfl, rfl, rfl, rfl, trivial⟩) X Tp N Cut.base tl O fun h' tk' own' fr' b' u' T' F' N' O' R' => ?_
              clear F N tl O
              ktr_unf
              (obtain ⟨a9, b9, e9, kq9, sm9⟩ := R'); exact kk _ _ _ _ _ BA rfl T' F' N' O' ⟨a9, b9, _, _, e9, fun p hp _ _ => kq9 p hp, kq9 _ hP, kq9 _ hP2, sm9⟩
            ·
              unfold Hold
              refine wpAny_execs_cons ?_
              ktr_unf
              ·
                unfold Hold
                refine BlkC.use (q_7 hd (NL := NL) (TT := TT) (qn := qn) (tq := tq)) (by rfl) hs2 F (by exact ⟨rfl, rfl, rfl, rfl, rfl, rfl, rfl, rfl, trivial⟩) X Tp N Cut.base tl O fun h' tk' own' fr' b' u' T' F' N' O' R' => ?_
                clear F N tl O
                ktr_unf
                (obtain ⟨a9, b9, e9, kq9, sm9⟩ := R'); exact kk _ _ _ _ _ BA rfl T' F' N' O' ⟨a9, b9, _, _, e9, fun p hp _ _ => kq9 p hp, kq9 _ hP, kq9 _ hP2, sm9⟩
              ·
                unfold Hold
                refine wpAny_execs_cons ?_
                ktr_unf
                ·
                  unfold Hold
                  refine BlkC.use (q_8 hd (NL := NL) (TT := TT) (qn := qn) (tq := tq)) (by rfl) hs2 F (by exact ⟨rfl, rfl, rfl, rfl, rfl, rfl, rfl, rfl, trivial⟩) X Tp N Cut.base tl O fun h' tk' own' fr' b' u' T' F' N' O' R' => ?_
                  clear F N tl O
                  ktr_unf
                  (obtain ⟨a9, b9, e9, kq9, sm9⟩ := R'); exact kk _ _ _ _ _ BA rfl T' F' N' O' ⟨a9, b9, _, _, e9, fun p hp _ _ => kq9 p hp, kq9 _ hP, kq9 _ hP2, sm9⟩
                ·
                  exact kk _ _ _ _ _ BA rfl tl F N O ⟨a0, b0, _, _, rfl, fun p hp _ _ => hp, hP, hP2, sm0⟩
end
local macro_rules | `(tactic| walk_at "none") => `(tactic| fail)
local macro_rules | `(tactic| walk_at "none") => `(tactic| fail)
section
example : True := by w_top off; trivial
noncomputable def heapT (P : Params) : Frag := (74, tbl #[]) :: (81, tbl #[]) :: Mine.hd.heap_39 P
def frd : Obj := { cls := .none, data := .freed }
/-- the heap without the two tables -/
def rmT (h : Heap) : Heap := (h.update 74 fun _ => frd).update 81 fun _ => frd
theorem get_freed (h : Heap) (a : Addr) : (h.update a fun _ => frd).get? a = none := by
  obtain ⟨objs, l⟩ := h
  simp only [Heap.update, Heap.get?, Array.getElem?_modify, if_true]
  cases objs[a]? <;> rfl
theorem rm74 (h : Heap) : (rmT h).get? 74 = none := (Heap.get?_update_other _ _ (by decide)).trans (get_freed h 74)
theorem rm81 (h : Heap) : (rmT h).get? 81 = none := get_freed _ 81
theorem rm_other (h : Heap) {b : Addr} (h1 : b ≠ 74) (h2 : b ≠ 81) : (rmT h).get? b = h.get? b := (Heap.get?_update_other _ _ (Ne.symm h2)).trans (Heap.get?_update_other _ _ (Ne.symm h1))
theorem rm_size (h : Heap) : (rmT h).objs.size = h.objs.size := (Heap.SameBut.update _ _ _).1.trans (Heap.SameBut.update _ _ _).1
theorem rm_sub {h : Heap} {b : Addr} {o : Obj} (e : (rmT h).get? b = some o) : h.get? b = some o := by
  by_cases h1 : b = 74
  · rw [h1, rm74] at e; cases e
  · by_cases h2 : b = 81
    · rw [h2, rm81] at e; cases e
    · rwa [rm_other h h1 h2] at e
section
variable {w : World} {h : Heap}
theorem heapT_74 (X : (heapT w.params).In h) : h.get? 74 = some (tbl #[]) := X _ _ rfl
theorem heapT_81 (X : (heapT w.params).In h) : h.get? 81 = some (tbl #[]) := X _ _ rfl
theorem no74 (P : Params) : (Mine.hd.heap_39 P).lookup 74 = none := by kernel_rfl
theorem no81 (P : Params) : (Mine.hd.heap_39 P).lookup 81 = none := by kernel_rfl
theorem heapT_K (X : (heapT w.params).In h) : (Mine.hd.heap_39 w.params).In h := fun a o e => by
  have h1 : a ≠ 74 := fun q => by rw [q, no74] at e; cases e
  have h2 : a ≠ 81 := fun q => by rw [q, no81] at e; cases e
  refine X a o ?_
  unfold heapT
  rw [List.lookup_cons, beq_eq_false_iff_ne.mpr h1]
  show List.lookup a _ = _
  rw [List.lookup_cons, beq_eq_false_iff_ne.mpr h2]
  exact e
theorem heapT_rm (X : (heapT w.params).In h) : (Mine.hd.heap_39 w.params).In (rmT h) := fun a o e => by
  have h1 : a ≠ 74 := fun q => by rw [q, no74] at e; cases e
  have h2 : a ≠ 81 := fun q => by rw [q, no81] at e; cases e
  rw [rm_other h h1 h2]
  exact heapT_K X a o e
theorem rm_keep (X : (heapT w.params).In h) {b : Addr} {o : Obj} (e : h.get? b = some o) (n : o ≠ tbl #[]) : (rmT h).get? b = some o := by
  have h1 : b ≠ 74 := fun q => by rw [q, heapT_74 X] at e; exact n (Option.some.inj e).symm
  have h2 : b ≠ 81 := fun q => by rw [q, heapT_81 X] at e; exact n (Option.some.inj e).symm
  rw [rm_other h h1 h2]
  exact e
theorem rm_ns (X : (heapT w.params).In h) {a : Addr} {m : Str → Option Value} (n : h.Ns a m) : (rmT h).Ns a m := by
  obtain ⟨o, es, ep, ho, hd, r⟩ := n
  exact ⟨o, es, ep, rm_keep X ho (fun q => by rw [q] at hd; cases hd), hd, r⟩
theorem rm_rec (X : (heapT w.params).In h) {cd : Value} {q : Str} (n : h.CodeRec cd q) : (rmT h).CodeRec cd q := by
  obtain ⟨c, o, vs, t, e, g, d, r⟩ := n
  exact ⟨c, o, vs, t, e, rm_keep X g (fun q => by rw [q] at d; cases d; cases r), d, r⟩
def lawNames : List Str := ["_wall", "_law_kind", "_law_put", "_law_only", "law"]
theorem tab_at {p : Program} {loose : List Str} {mean : ExcName → Option Value} {mg mb : Str → Option Value} (X : (heapT w.params).In h) (T : Top p loose mean mg mb h) {n : Str} (hn : n ∈ lawNames) {a c P : Addr} {o : Obj} {fd : FuncData}
    (h1 : mg n = some (.ref a)) (h2 : h.get? a = some o) (h3 : o.data = .func fd) (h4 : fd.code = .ref c) (ht : h.TableAt c P #[]) : P ≠ 74 ∧ P ≠ 81 := by
  have K := heapT_K X
  obtain ⟨⟨oc, vs, g1, g2, g3, g4⟩, _⟩ := ht
  simp only [lawNames, List.mem_cons, List.not_mem_nil, or_false] at hn
  have key : ∀ (f : Addr), mg n = some (.ref f) → (∃ o fd' c' oc' vs', (Mine.hd.heap_39 w.params).lookup f = some o ∧ o.data = .func fd' ∧ fd'.code = .ref c' ∧ (Mine.hd.heap_39 w.params).lookup c' = some oc' ∧ oc'.data = .fields vs' ∧ vs'[11]? ≠ some (.ref 74) ∧ vs'[11]? ≠ some (.ref 81)) → P ≠ 74 ∧ P ≠ 81 := by
    rintro f e ⟨o', fd', c', oc', vs', q1, q2, q3, q4, q5, q6, q7⟩
    rw [h1] at e
    cases e
    have e := K _ _ q1
    rw [h2] at e
    cases e
    rw [h3] at q2
    cases q2
    rw [h4] at q3
    cases q3
    have e := K _ _ q4
    rw [g1] at e
    cases e
    rw [g3] at q5
    cases q5
    exact ⟨fun q => q6 (q ▸ g4), fun q => q7 (q ▸ g4)⟩
  rcases hn with rfl | rfl | rfl | rfl | rfl
  · exact key 21 (mg_of K T.g (by k_is)) ⟨_, _, _, _, _, by k_is, rfl, rfl, by k_is, rfl, by decide, by decide⟩
  · exact key 320 (mg_of K T.g (by k_is)) ⟨_, _, _, _, _, by k_is, rfl, rfl, by k_is, rfl, by decide, by decide⟩
  · exact key 325 (mg_of K T.g (by k_is)) ⟨_, _, _, _, _, by k_is, rfl, rfl, by k_is, rfl, by decide, by decide⟩
  · exact key 330 (mg_of K T.g (by k_is)) ⟨_, _, _, _, _, by k_is, rfl, rfl, by k_is, rfl, by decide, by decide⟩
  · exact key 335 (mg_of K T.g (by k_is)) ⟨_, _, _, _, _, by k_is, rfl, rfl, by k_is, rfl, by decide, by decide⟩
theorem top_rm {p : Program} {loose : List Str} {mean : ExcName → Option Value} {mg mb : Str → Option Value} (X : (heapT w.params).In h) (T : Top p loose mean mg mb h) (hr : ∀ d ∈ recsOf p, d.name ∈ lawNames) (ho : ownsOf p = []) : Top p loose mean mg mb (rmT h) where
  g := rm_ns X T.g
  b := rm_ns X T.b
  nolimit := let ⟨mc, h1, h2⟩ := T.nolimit; ⟨mc, rm_ns X h1, h2⟩
  nodigits := let ⟨mc, h1, h2⟩ := T.nodigits; ⟨mc, rm_ns X h1, h2⟩
  fn := fun d hd => let ⟨a, o, pm, code, doc, h1, h2, h3, h4⟩ := T.fn d hd; ⟨a, o, pm, code, doc, h1, rm_keep X h2 (fun q => by rw [q] at h3; cases h3), h3, rm_rec X h4⟩
  own := fun o hq => by rw [ho] at hq; cases hq
  const := T.const
  free := T.free
  builtins := T.builtins
  tab := fun d hd => by
    obtain ⟨a, o, fd, c, P, h1, h2, h3, h4, h5, h6⟩ := T.tab d hd
    obtain ⟨n1, n2⟩ := tab_at X T (hr d hd) h1 h2 h3 h4 h6
    have hPk : ∀ op, h.get? P = some op → (rmT h).get? P = some op := fun op e => (rm_other h n1 n2).trans e
    refine ⟨a, o, fd, c, P, h1, rm_keep X h2 (fun q => by rw [q] at h3; cases h3), h3, h4, ?_, ?_⟩
    · obtain ⟨oc, vs, file, tf, flags, tg, inF, text, tt, op, ho, r1, r2, r3, r4, r5, r6, hp, r7⟩ := h5
      exact ⟨oc, vs, file, tf, flags, tg, inF, text, tt, op, rm_keep X ho (fun q => by rw [q] at r1; cases r1; cases r2), r1, r2, r3, r4, r5, r6, hPk _ hp, r7⟩
    · obtain ⟨⟨oc, vs, g1, g2, g3, g4⟩, g5⟩ := h6
      exact ⟨⟨oc, vs, rm_keep X g1 (fun q => by rw [q] at g2; cases g2), g2, g3, g4⟩, hPk _ g5⟩
  bmain := let ⟨bm, ob, h1, h2, h3, h4, r⟩ := T.bmain; ⟨bm, ob, h1, h2, rm_keep X h3 (fun q => by rw [q] at h4; cases h4), h4, r⟩
  seer := fun hi => by
    obtain ⟨⟨mc, a1, a2⟩, ⟨mm, b1, b2⟩, ⟨mi, c1, c2⟩, ⟨mn, bm, ob, d1, d2, d3, d4, d5⟩⟩ := T.seer hi
    exact ⟨⟨mc, rm_ns X a1, a2⟩, ⟨mm, rm_ns X b1, b2⟩, ⟨mi, rm_ns X c1, c2⟩, ⟨mn, bm, ob, rm_ns X d1, d2, rm_keep X d3 (fun q => by rw [q] at d4; cases d4), d4, d5⟩⟩
/-- the old heap, but for the tables, stays -/
theorem oldK_rm {h' : Heap} {p1 p2 : Array Value} (X : (heapT w.params).In h) (k : ∀ b o, (rmT h).get? b = some o → h'.get? b = some o) (e1 : h'.get? 74 = some (tbl p1)) (e2 : h'.get? 81 = some (tbl p2)) : OldK h h' := by
  have K := heapT_K X
  have c1 := K 78 _ (by k_is)
  have c2 := K 85 _ (by k_is)
  have t1 : isCodeTable h 74 := ⟨78, _, _, c1, rfl, rfl, rfl⟩
  have t2 : isCodeTable h 81 := ⟨85, _, _, c2, rfl, rfl, rfl⟩
  refine ⟨fun b o e => ?_, fun b o e => ?_⟩
  · by_cases h1 : b = 74
    · subst h1
      rw [heapT_74 X] at e
      cases e
      exact .inr (.inl ⟨t1, rfl, #[], p1, rfl, by rw [e1]; simp⟩)
    · by_cases h2 : b = 81
      · subst h2
        rw [heapT_81 X] at e
        cases e
        exact .inr (.inl ⟨t2, rfl, #[], p2, rfl, by rw [e2]; simp⟩)
      · exact .inl (k b o ((rm_other h h1 h2).trans e))
  · by_cases h1 : b = 74
    · exact ⟨_, h1 ▸ e1⟩
    · by_cases h2 : b = 81
      · exact ⟨_, h2 ▸ e2⟩
      · exact ⟨o, k b o ((rm_other h h1 h2).trans e)⟩
end
end
local macro_rules | `(tactic| walk_at "none") => `(tactic| fail)
section
example : True := by w_top off; trivial
section
variable {prog : Program} {w : World} {A : Around} {E Q : Value → Shared → Prop} {s : Shared} {h₀ : Heap} {L l : Addr} {m : Str → Option Value} {vs : List Value} {i : Int} {k : Nat} {u : Tok}
theorem base_list (F : Fr h₀ L s.heap m) (hL : h₀.IsList l vs.toArray) : s.heap.IsList l vs.toArray := let ⟨o, ho, r⟩ := hL; ⟨o, F.keep _ _ ho, r⟩
theorem len_base (F : Fr h₀ L s.heap m) (hL : h₀.IsList l vs.toArray) (hz : vs.length ≤ 63) (h : Q (.int (vs.length : Nat) (s.toks + 1)) { s with toks := s.toks + 1 + 1 }) : wpAny (model prog w) A (call (.builtin "len") [.ref l]) Q E s := by
  have e : vs.toArray.size = vs.length := by simp
  refine PySem.Calls.call_len_list (base_list F hL) (by omega) ?_
  rw [e]
  exact h
end
local macro_rules | `(tactic| walk_at "call builtin:len") => `(tactic| (k_here; (with_reducible show wpAny _ _ (call (Value.builtin _) [Value.ref _]) _ _ _); (refine' len_base ?F ?l ?z ?_); (case F => k_asm); (case l => with_reducible assumption); (case z => with_reducible assumption)))
local macro_rules | `(tactic| walk_at "eval ListComp") => `(tactic| refine Hold.of ?_)
theorem st_0 {w : World} {own : Led} {L l : Addr} {os : Obj} {vs : List Value} {ns : List Int} (hos : (L + 1, os) ∈ own) (eos : os.data = .cell (some (.ref l))) (hI : IntsAre vs ns) (hz : vs.length ≤ 63)
    {sc : Scope} {prog : Program} {Q : Flow → Shared → Prop} {s : Shared} {h₀ : Heap} {fa : Addr} {cd : Value} {m mg mb : Str → Option Value} {p : Program} {loose : List Str} {mean : ExcName → Option Value} {fr₁ fr : Led}
    (hs' : sc = lawScope) (hL : h₀.IsList l vs.toArray) (F : Fr h₀ L s.heap m) (X : (Mine.hd.heap_39 w.params).In h₀) (Tp : Top p loose mean mg mb h₀) (N : News h₀ L s.heap (own ++ fr)) (tl : Tl [] fr₁ fr) (O : Off own [])
    (kk : ∀ h' tk' own' fr' u' NL (nums : List Value) nN, Tl [] fr₁ fr' → Fr h₀ L h' (kb [("numbers", .ref NL)] u') → News h₀ L h' (own' ++ fr') → Off own' [] → Kq own own' → (NL, listOf nums.toArray nN) ∈ own' → nums.length = 14 → (∀ j, j < 14 → ∃ n t, nums.getD j .none = .int n t) → Q .next { s with heap := h', toks := tk' }) :
    wpAny (model prog w) (AC 302 7 [envOfC "law" sc L fa cd]) (exec (lawSt 0) (envOfC "law" sc L fa cd)) Q (fun _ _ => False) s := by
  generalize hb : lawSt 0 = blk
  conv at hb => lhs; whnf
  conv at hs' => rhs; whnf
  subst hb
  subst hs'
  try dsimp only
  refine LCg.Assign_ListComp_U F (by rfl) (by with_unfolding_all rfl) (by with_unfolding_all rfl) (by decide) (by rfl) (by decide) (by rfl) (by rfl) (by rfl) ?_
  ktr_unf
  unfold Hold
  rename_i hR F7 N7 kC
  refine LCg.CompSrc.range (n := 14) rfl F7 N7 hR (by decide) (by decide) (by decide) fun g => ?_
  clear F7 N7 kC hR
  refine comp_restU (fun j ys nw => ∃ fr', nw = own ++ fr' ∧ Tl [] fr₁ fr' ∧ ys.length = j ∧ ∀ i, i < j → ∃ n t, ys.getD i .none = .int n t) ⟨fr, rfl, tl, rfl, fun i hi => absurd hi (Nat.not_lt_zero _)⟩ ?_ ?_
  · rintro ys nw ⟨fr', rfl, T8, hyl, hyi⟩ DD h tk F8 N8 off8
    have nD : New own DD := fun p hp => off1_mem off8 p (List.mem_append_left _ hp)
    have OD : Off ((DD, listOf ys.toArray ys.length) :: own) [] := Off.cons (off1_frs off8 T8) O
    exact kk h tk ((DD, listOf ys.toArray ys.length) :: own) fr' m DD ys ys.length T8 F8 N8 OD (fun p hp => .tail _ hp) (.head _) hyl hyi
  · rintro j ys nw hj ⟨fr', rfl, T8, hyl, hyi⟩ v' I2 oI2 C oC DD m₂ h tk E' ⟨tt, hvv⟩ hns hm F8 N8 off8 ne8
    rw [Int.zero_add] at hvv
    subst hvv
    have O8 := off3_off (oI := oI2) (oC := oC) (oD := LCg.lst ys) off8 T8 O
    have snoc : ∀ n t, ∀ i, i < j + 1 → ∃ n' t', (ys ++ [Value.int n t]).getD i .none = .int n' t' := fun n t i hi => by
      rw [List.getD_eq_getElem?_getD]
      by_cases hij : i < j
      · obtain ⟨n', t', e⟩ := hyi i hij
        rw [List.getElem?_append_left (by omega), ← List.getD_eq_getElem?_getD]
        exact ⟨n', t', e⟩
      · obtain rfl : i = j := by omega
        rw [List.getElem?_append_right (by omega), hyl, Nat.sub_self]
        exact ⟨n, t, rfl⟩
    ktr_unf
    all_goals exact ⟨_, _, _, rfl, F8, N8, off8, trivial, fr', rfl, T8, by rw [List.length_append, hyl]; rfl, snoc _ _⟩
end
local macro_rules | `(tactic| walk_at "none") => `(tactic| fail)
local macro_rules | `(tactic| walk_at "none") => `(tactic| fail)
local macro_rules | `(tactic| walk_at "none") => `(tactic| fail)
section
example : True := by w_top off; trivial
section
variable {prog : Program} {w : World} {A : Around} {E : Value → Shared → Prop} {s : Shared} {h₀ : Heap} {L : Addr} {m : Str → Option Value} {env : Env}
def SrcTup (prog : Program) (w : World) (A : Around) (h₀ : Heap) (L : Addr) (m : Str → Option Value) (env : Env) (elt : Expr) (x : Str) (scope : Scope) (cl : List (Str × Addr)) (Q : Value → Shared → Prop) (xv : Value) (s₁ : Shared) : Prop :=
  ∃ ax its news, xv = .ref ax ∧ A.handled = none ∧ Fr h₀ L s₁.heap m ∧ News h₀ L s₁.heap news ∧ h₀.IsTuple ax its ∧ its.size ≤ sizeLine ∧
    ∀ g, LCg.CompRest prog w A h₀ L m env elt x scope cl { s₁ with heap := g } (fun _ => True) (fun i v => its[i]? = some v) (LCg.FinE h₀ L m { s₁ with heap := g } Q) its.size 0 [] news
/-- a comprehension over a tuple of the base -/
theorem ListComp_Tup {elt iter : Expr} {x : Str} {px : PySem.Pos} {scope : Scope} {cl : List (Str × Addr)} {pos : PySem.Pos} {Q : Value → Shared → Prop} (_ : Fr h₀ L s.heap m)
    (hclos : closureFor scope env = pure cl) (hcell : ∀ y ∈ scope.names, y.2 ≠ .cell) (hkind : scope.kind = .function)
    (hnames : ∀ y ∈ scope.names, y.2 = .local → scope.names.lookup y.1 = some .local) (hx : scope.names.lookup x = some .local)
    (h : wpAny (model prog w) A (eval iter env) (SrcTup prog w A h₀ L m env elt x scope cl Q) E s)
    (hs : ∀ x, foldedSetIterable iter env x = pure x := by intro _; rfl) :
    wpAny (model prog w) A (eval (.ListComp elt [⟨.Name x px, iter, [], 0⟩] scope pos) env) Q E s := by
  rw [eval_ListComp]
  refine wpAny_comprehension_free (use := none) rfl hs hclos hkind hnames (wpAny_mono h (fun xv s₁ h₁ => ?_) fun _ _ e => e)
  obtain ⟨ax, its, news, rfl, hh, F, N, hl₀, hsz, R⟩ := h₁
  obtain ⟨ot, hot, htr⟩ := id hl₀
  have hl : s₁.heap.IsTuple ax its := ⟨ot, F.keep _ _ hot, htr⟩
  have hlt : ax < s₁.heap.objs.size := by obtain ⟨_, e, _⟩ := hl; exact Heap.lt_size e
  refine wpAny_pyIter_tuple hl ?_
  have up : ∀ b o, s₁.heap.get? b = some o → (s₁.heap.push { cls := .type "tuple_iterator", data := .fields #[.ref ax, .int 0 0] }).get? b = some o := fun b o e => Heap.get?_push_of_some _ e
  refine LCg.block_U (S := fun _ => True) (Walks.tuple hh s₁.heap.objs.size ax (Nat.ne_of_lt hlt) its) hsz (fun i h st => by obtain ⟨o, e, _⟩ := st.1; exact ⟨o, e⟩) (fun i h h' o nw st e e' k _ _ => ⟨by obtain ⟨o', q, r⟩ := st.1; rw [e] at q; cases q; exact ⟨o, e', r⟩, ⟨ot, k _ _ hot, htr⟩⟩) hcell hkind hx
    ⟨⟨_, Heap.get?_push_size _ rfl, rfl, rfl⟩, hl.at fun o e => up _ _ e⟩ (fun b hb => ?_) (F.keeps up) (N.grown up) (Nat.ne_of_lt F.ns.lt) (next_is_new F) (fun p hp => Nat.ne_of_lt (Heap.lt_size (N p hp).1)) trivial (R _) ?_
  · show b < (s₁.heap.push _).objs.size
    rw [Heap.size_push]
    rcases List.mem_cons.mp hb with rfl | hb
    · exact Nat.lt_succ_self _
    · rw [List.mem_singleton.mp hb]; exact Nat.lt_succ_of_lt hlt
  · intro D C h tk m' ys news' F' N' o1 hn hC₀ hD₀ hCL hDL hCD offC fin
    refine ⟨m', hn, fun h'' hs'' => fin D h'' tk (F'.change hs'' hCL hC₀) (fun p hp => ?_) o1⟩
    refine ⟨hs''.extBut _ _ ?_ (N' p hp).1, (N' p hp).2⟩
    rcases List.mem_cons.mp hp with rfl | hp
    · exact Ne.symm hCD
    · exact offC p hp
end
theorem snoc_all {f : Nat → Value} {us : List Value} {j : Nat} {v : Value} (hl : us.length = j) (h : ∀ i, i < j → us.getD i .none = f i) (e : v = f j) : ∀ i, i < j + 1 → (us ++ [v]).getD i .none = f i := fun i hi => by
  rw [List.getD_eq_getElem?_getD]
  by_cases hij : i < j
  · rw [List.getElem?_append_left (by omega), ← List.getD_eq_getElem?_getD]
    exact h i hij
  · obtain rfl : i = j := by omega
    rw [List.getElem?_append_right (by omega), hl, Nat.sub_self]
    exact e
abbrev bR (T q : Addr) : List (Str × Value) := [("two", .ref T), ("b", .ref q)]
local macro_rules | `(tactic| walk_at "compareOp NotEq ref ref") => `(tactic| refine Hold.of ?_)
local macro_rules | `(tactic| walk_at "SrcTup") => `(tactic| fail "held")
local macro_rules | `(tactic| walk_at "eval ListComp") => `(tactic| refine Hold.of ?_)
local macro_rules | `(tactic| walk_at "call ref") => `(tactic| (k_here; (with_reducible show wpAny _ _ (call (Value.ref 184) _) _ _ _); k_dflt ((refine' Con.use ?c ?hA ?hf ?hk ?F ?X ?T ?N ?hc ?t ?O (fun v9 h9 tk9 own9 fr9 T9 F9 N9 O9 R9 => ?_)); (case N => k_asm); (case hc => acc_binds); (case c => exact c_contains (by acc_peel) (by with_reducible assumption) (by omega)); (case hA => acc_state); (case hf => rfl); (case hk => rfl); (case F => k_asm); (case X => k_asm); (case T => k_asm); (case t => with_reducible assumption); (case O => acc_keepN); (obtain ⟨e9, e8⟩ := R9; subst e9; subst e8))))
theorem st_9 {w : World} {d : List Value} {own : Led} {L S D Ls T E Lt r q NL ta a0 b0 : Addr} {lL lM sm : Addr} {xs ys : List Value} {nr nq : Nat} {o1 oa : Obj} {qn : Int} {tq : Tok} (dom : Dom d) (htc : ∀ y ∈ d, Tc y) (hdl : d.length ≤ 8) (s1 : SetAt own S D Ls xs) (hr : (r, listOf xs.toArray nr) ∈ own) (gx : Good d xs)
    (hta : ∀ h₀ : Heap, (Mine.hd.heap_39 w.params).In h₀ → h₀.IsTuple ta d.toArray) (hc1 : (L + 1 + 1, o1) ∈ own) (e1 : o1.data = .cell (some (.ref S))) (hca : (L + 1 + 1 + 1, oa) ∈ own) (ea : oa.data = .cell (some (.ref r))) (sm0 : Same own a0 b0) :
    BlkCE w L (lawSt 9) (bE T q lL lM sm NL (.ref ta) qn tq a0 b0) own (fun b' own' => b' = bR T q ∧ Kq own own') := by
  have hT : ∀ y ∈ d, Th y := fun y hy => (htc y hy).th
  have gxT := mem_th hT gx.mem
  have xl := good_len dom gx hdl
  obtain ⟨hS, ⟨hsh, tk, hD⟩, ⟨nL, hL⟩, hth, m1, m2, m3⟩ := id s1
  intro sc prog Q s h₀ fa cd mg mb u p loose mean fr₁ fr hs' F X Tp N tl O kk
  have ht := hta h₀ X
  generalize hb : lawSt 9 = blk
  conv at hb => lhs; whnf
  conv at hs' => rhs; whnf
  subst hb
  subst hs'
  try dsimp only
  ktr_unf
  unfold Hold
  refine ne_same N Cut.base sm0 (Nat.le_of_ble_eq_true rfl) ?_
  ktr_unf
  unfold Hold
  refine ListComp_Tup F (by with_unfolding_all rfl) (by decide) (by rfl) (by decide) (by rfl) ?_
  ktr_unf
  unfold SrcTup
  refine ⟨ta, d.toArray, own ++ fr, rfl, rfl, F, N, ht, sizeLine_ge (by simp; omega), fun g => ?_⟩
  refine comp_restU (fun j vs nw => ∃ fr', nw = own ++ fr' ∧ Tl [] fr₁ fr' ∧ vs.length = j ∧ ∀ i, i < j → vs.getD i .none = .bool (has xs (d.getD i .none))) ⟨fr, rfl, tl, rfl, fun i hi => absurd hi (Nat.not_lt_zero _)⟩ ?_ ?_
  · rintro vs nw ⟨fr', rfl, T8, hyl, hyi⟩ DD h tk F8 N8 off8
    obtain ⟨oD, eD⟩ : ∃ o : Led, o = (DD, listOf vs.toArray vs.length) :: own := ⟨_, rfl⟩
    have OD : Off oD [] := eD ▸ Off.cons (off1_frs off8 T8) O
    have mD : (DD, listOf vs.toArray vs.length) ∈ oD := eD ▸ .head _
    have kqD : Kq own oD := fun p hp => eD ▸ .tail _ hp
    have ND : News h₀ L h (oD ++ fr') := by rw [eD]; exact N8
    clear N8 off8 eD
    have mr := kqD _ hr
    have mca := kqD _ hca
    ktr_unf
    unfold Hold
    refine ListComp_Tup F8 (by with_unfolding_all rfl) (by decide) (by rfl) (by decide) (by rfl) ?_
    ktr_unf
    unfold SrcTup
    refine ⟨ta, d.toArray, oD ++ fr', rfl, rfl, F8, ND, ht, sizeLine_ge (by simp; omega), fun g2 => ?_⟩
    refine comp_restU (fun j us nw => ∃ fr', nw = oD ++ fr' ∧ Tl [] fr₁ fr' ∧ us.length = j ∧ ∀ i, i < j → us.getD i .none = .bool (anyV xs (d.getD i .none))) ⟨fr', rfl, T8, rfl, fun i hi => absurd hi (Nat.not_lt_zero _)⟩ ?_ ?_
    · rintro us nw ⟨fr2, rfl, T9, hzl, hzi⟩ D2 h2 tk2 F9 N9 off9
      ktr_unf
      unfold Hold
      have hsz : d.toArray.size = d.length := by simp
      refine ne_same (own := (D2, listOf us.toArray us.length) :: oD) (fr := fr2) N9 Cut.b1 ⟨vs, us, _, _, .tail _ mD, .head _, hyl.trans hzl.symm, fun j hj => ?_⟩ (Nat.le_of_ble_eq_true rfl) ?_
      · have hj' : j < d.toArray.size := hyl ▸ hj
        have hjd : d.getD j .none ∈ d := by
          rw [List.getD_eq_getElem?_getD, List.getElem?_eq_getElem (hsz ▸ hj')]
          exact List.getElem_mem _
        rw [hyi j hj', hzi j hj', has_any dom gx hjd]
        exact .same _
      · ktr_unf
        exact kk h2 _ ((D2, listOf us.toArray us.length) :: oD) fr2 _ _ T9 (fr_binds F9 (ps := bR T q) (by exact ⟨rfl, rfl, trivial⟩)) N9 off_nil ⟨rfl, fun p hp => .tail _ (kqD _ hp)⟩
    · rintro j us nw hj ⟨fr2, rfl, T9, hzl, hzi⟩ v' I2 oI2 C oC D2 m₂ h2 tk2 E' hvv hns hm F9 N9 off9 ne9
      have O9 := off3_off (oI := oI2) (oC := oC) (oD := LCg.lst us) off9 T9 OD
      have hv2 : d[j]? = some v' := by simpa using hvv
      have hvd : v' ∈ d := List.mem_of_getElem? hv2
      have hvT : Th v' := hT _ hvd
      have hvg : d.getD j .none = v' := by rw [List.getD_eq_getElem?_getD, hv2]; rfl
      ktr_unf
      (rename News h₀ L _ _ => NZ; rename Fr h₀ L _ _ => FZ)
      refine ⟨_, _, _, rfl, FZ, NZ, off9, trivial, _, rfl, T9, by rw [List.length_append, hzl]; rfl, snoc_all hzl hzi (congrArg Value.bool ?_)⟩
      rw [hvg]; rfl
  · rintro j vs nw hj ⟨fr', rfl, T8, hyl, hyi⟩ v' I2 oI2 C oC DD m₂ h tk E' hvv hns hm F8 N8 off8 ne8
    have O8 := off3_off (oI := oI2) (oC := oC) (oD := LCg.lst vs) off8 T8 O
    have hv2 : d[j]? = some v' := by simpa using hvv
    have hvd : v' ∈ d := List.mem_of_getElem? hv2
    have hvT : Th v' := hT _ hvd
    have hvg : d.getD j .none = v' := by rw [List.getD_eq_getElem?_getD, hv2]; rfl
    ktr_unf
    (rename News h₀ L _ _ => NZ; rename Fr h₀ L _ _ => FZ; rename Tl [] _ _ => TZ)
    refine ⟨_, _, _, rfl, FZ, NZ, off3_next off8 T8 TZ, trivial, _, rfl, TZ, by rw [List.length_append, hyl]; rfl, snoc_all hyl hyi (congrArg Value.bool ?_)⟩
    rw [hvg]
end
local macro_rules | `(tactic| walk_at "none") => `(tactic| fail)
local macro_rules | `(tactic| walk_at "none") => `(tactic| fail)
local macro_rules | `(tactic| walk_at "none") => `(tactic| fail)
local macro_rules | `(tactic| walk_at "none") => `(tactic| fail)
local macro_rules | `(tactic| walk_at "none") => `(tactic| fail)
section
example : True := by w_top off; trivial
theorem lawBody_eq : lawBody = [lawSt 0, lawSt 1, lawSt 2, lawSt 3, lawSt 4, lawSt 5, lawSt 6, lawSt 7, lawSt 8, lawSt 9, lawSt 10] := by kernel_rfl
theorem stock (j : Nat) (hj : j < 2) : ∃ (d : List Value) (ta : Addr), Dom d ∧ (∀ y ∈ d, Tc y) ∧ d.length = 8 ∧ ([.ref 311, .ref 312] : List Value).getD j .none = .ref ta ∧ ∀ (w : World) (h₀ : Heap), (Mine.hd.heap_39 w.params).In h₀ → h₀.IsTuple ta d.toArray := by
  obtain rfl | rfl : j = 0 ∨ j = 1 := by omega
  · exact ⟨dA, 311, domA, tcA, rfl, rfl, fun w => tupA⟩
  · exact ⟨dB, 312, domB, tcB, rfl, rfl, fun w => tupB⟩
theorem law_ret {w : World} {prog : Program} {s₁ : Shared} {h₁ : Heap} {tk : Nat} {L fa l : Addr} {cd : Value} {os o1 oa : Obj} {v1 va : Option Value} {vs : List Value} {ns : List Int} {m mg mb : Str → Option Value} {p : Program} {loose : List Str} {mean : ExcName → Option Value} {Q : Flow → Shared → Prop}
    (X : (heapT w.params).In s₁.heap) (T₀ : Top p loose mean mg mb s₁.heap) (hrec : ∀ d ∈ recsOf p, d.name ∈ lawNames) (hown : ownsOf p = []) (hg : s₁.gens = #[]) (hL : s₁.heap.IsList l vs.toArray) (hI : IntsAre vs ns) (hz : vs.length ≤ 63)
    (F₀ : Fr s₁.heap L h₁ m) (N₀ : News s₁.heap L h₁ [(L + 1 + 1 + 1, oa), (L + 1 + 1, o1), (L + 1, os)]) (ea : oa.data = .cell va) (e1 : o1.data = .cell v1) (es : os.data = .cell (some (.ref l)))
    (kk : ∀ s' : Shared, OldK s₁.heap s'.heap → s'.os = s₁.os → AllBare s'.gens → Q (.ret (.bool true)) s') :
    wpAny (model prog w) (AC 302 7 [envOfC "law" lawScope L fa cd]) (execs lawBody (envOfC "law" lawScope L fa cd)) Q (fun _ _ => False) { s₁ with heap := h₁, toks := tk } := by
  have XK := heapT_rm X
  have T := top_rm X T₀ hrec hown
  have t74 := heapT_74 X
  have t81 := heapT_81 X
  have n74 : (74 : Addr) ≠ L := Nat.ne_of_lt (Nat.lt_of_lt_of_le (Heap.lt_size t74) F₀.above)
  have n81 : (81 : Addr) ≠ L := Nat.ne_of_lt (Nat.lt_of_lt_of_le (Heap.lt_size t81) F₀.above)
  have r74 := rm74 s₁.heap
  have r81 := rm81 s₁.heap
  have rsub : ∀ b o, (rmT s₁.heap).get? b = some o → s₁.heap.get? b = some o := fun b o e => rm_sub e
  have rsz := rm_size s₁.heap
  have hL' : (rmT s₁.heap).IsList l vs.toArray := let ⟨o, ho, hc, r⟩ := hL; ⟨o, rm_keep X ho (fun q => by rw [q] at hc; cases hc), hc, r⟩
  have fin : ∀ h' : Heap, (∀ b o, (rmT s₁.heap).get? b = some o → h'.get? b = some o) → ∀ p1 p2, h'.get? 74 = some (tbl p1) → h'.get? 81 = some (tbl p2) → OldK s₁.heap h' := fun h' k p1 p2 a b => oldK_rm X k a b
  generalize rmT s₁.heap = hb at XK T r74 r81 rsub rsz hL' fin
  have F : Fr hb L h₁ m := ⟨F₀.ns, fun b o e => F₀.keep b o (rsub b o e), rsz ▸ F₀.above⟩
  have none_of : ∀ {b : Addr}, s₁.heap.get? b = none → hb.get? b = none := fun {b} e => by
    cases q : hb.get? b with
    | none => rfl
    | some o => rw [rsub b o q] at e; cases e
  have N : News hb L h₁ (((74, tbl #[]) :: (81, tbl #[]) :: [(L + 1 + 1 + 1, oa), (L + 1 + 1, o1), (L + 1, os)]) ++ []) := fun p hp => by
    rw [List.append_nil] at hp
    rcases List.mem_cons.mp hp with e | hp
    · rw [e]; exact ⟨F₀.keep _ _ t74, n74, r74⟩
    · rcases List.mem_cons.mp hp with e | hp
      · rw [e]; exact ⟨F₀.keep _ _ t81, n81, r81⟩
      · obtain ⟨a, b, c⟩ := N₀ p hp
        exact ⟨a, b, none_of c⟩
  have tl : Tl [] [] [] := Tl.refl trivial
  obtain ⟨own0, eo⟩ : ∃ o : Led, o = (74, tbl #[]) :: (81, tbl #[]) :: [(L + 1 + 1 + 1, oa), (L + 1 + 1, o1), (L + 1, os)] := ⟨_, rfl⟩
  rw [← eo] at N
  have m74 : (74, tbl #[]) ∈ own0 := eo ▸ .head _
  have m81 : (81, tbl #[]) ∈ own0 := eo ▸ .tail _ (.head _)
  have mca : (L + 1 + 1 + 1, oa) ∈ own0 := eo ▸ .tail _ (.tail _ (.head _))
  have mc1 : (L + 1 + 1, o1) ∈ own0 := eo ▸ .tail _ (.tail _ (.tail _ (.head _)))
  have mcs : (L + 1, os) ∈ own0 := eo ▸ .tail _ (.tail _ (.tail _ (.tail _ (.head _))))
  clear eo N₀ F₀
  rw [lawBody_eq]
  refine wpAny_execs_cons ?_
  refine st_0 mcs es hI hz rfl hL' F XK T N tl off_nil fun h2 tk2 own2 fr2 u2 NL nums nN T2 F2 N2 O2 kq2 mNL hnl hnv => ?_
  clear F N
  dsimp only
  obtain ⟨n0, t0, hn0⟩ := hnv 0 (by decide)
  obtain ⟨j0, hj0, hj02⟩ := fmod_nat n0 2 (by decide)
  change Int.fmod n0 2 = (j0 : Int) at hj0
  obtain ⟨d, ta, dom, htc, hd8, hta, htup⟩ := stock j0 hj02
  refine wpAny_execs_cons ?_
  refine BlkCE.use (st_1 mNL (by omega) (by omega) hn0 hj0 hj02 hta) rfl rfl F2 ⟨rfl, trivial⟩ XK T N2 Cut.base T2 O2 fun h3 tk3 own3 fr3 b3 u3 T3 F3 N3 O3 R3 => ?_
  obtain ⟨rfl, rfl⟩ := R3
  clear F2 N2
  dsimp only
  refine wpAny_execs_cons ?_
  refine BlkCE.use (st_2 (NL := NL) (TT := .ref ta)) rfl rfl F3 ⟨rfl, rfl, trivial⟩ XK T N3 Cut.base T3 O3 fun h4 tk4 own4 fr4 b4 u4 T4 F4 N4 O4 R4 => ?_
  obtain ⟨S, D, Ls, T', E, Lt, P, W, r, q, nP, nW, nr, nq, rfl, kq4, s1, s2, hP, hW, hr, hq, a1, a2, a3, a4, a5, a6, a7, a8, c1, c2, c3, c4, c5, c6, c7, c8, c9, c10, c11, c12, c13, c14, c15, a9, a10⟩ := R4
  clear F3 N3
  dsimp only
  have iv : LInv d P W S D T' E own3 own4 := ⟨Ls, Lt, r, q, [], [], nP, nW, nr, nq, s1, s2, hP, hW, hr, hq, Good.nil, Good.nil, kq4, c1, c2, c3, c4, c5, c6, c7, c8, c9, c10, c11, c12, c13, c14, c15, fun p hp => ⟨a2 p hp, a5 p hp, a3 p hp, a6 p hp, a7 p hp, a8 p hp, a9 p hp, a10 p hp⟩⟩
  clear s1 s2 hP hW hr hq a1 a2 a3 a4 a5 a6 a7 a8 a9 a10 c1 c2 c3 c4 c5 c6 c7 c8 c9 c10 c11 c12 c13 c14 c15
  refine wpAny_execs_cons ?_
  refine BlkCE.use (st_3 dom htc hd8 iv (htup w) mNL hnl hnv) rfl rfl F4 ⟨rfl, rfl, rfl, rfl, trivial⟩ XK T N4 Cut.base T4 O4 fun h5 tk5 own5 fr5 b5 u5 T5 F5 N5 O5 R5 => ?_
  obtain ⟨rfl, iv5⟩ := R5
  clear F4 N4 iv kq4
  dsimp only
  obtain ⟨Ls, Lt, r, q, xs, ys, nP, nW, nr, nq, s1, s2, hP, hW, hr, hq, gx, gy, kq5, c1, c2, c3, c4, c5, c6, c7, c8, c9, c10, c11, c12, c13, c14, c15, nk⟩ := iv5
  obtain ⟨i1, i2, i3, i4, i5, i6, i7, i8⟩ := nk _ (kq2 _ mc1)
  obtain ⟨k1, k2, k3, k4, k5, k6, k7, k8⟩ := nk _ (kq2 _ mca)
  have cell : ∀ {a : Addr} {o : Obj} {c : Addr} {oc : Obj} {v : Option Value}, (a, o) ∈ own5 → (c, oc) ∈ own5 → oc.data = .cell v → (∀ v, o.data ≠ .cell v) → a ≠ c := fun ha hc e n => ne_of_objs N5 (List.mem_append_left _ ha) (List.mem_append_left _ hc) fun q => n _ (q ▸ e)
  have q1 := kq5 _ (kq2 _ mc1)
  have qa := kq5 _ (kq2 _ mca)
  have q74 := kq5 _ (kq2 _ m74)
  have q81 := kq5 _ (kq2 _ m81)
  have qNL := kq5 _ mNL
  refine wpAny_execs_cons ?_
  refine BlkCE.use (st_4 (TT := .ref ta) (NL := NL) hP hW q1 e1 qa ea ⟨ne_flip i5, ne_flip i6⟩ ⟨ne_flip k5, ne_flip k6⟩) rfl rfl F5 ⟨rfl, rfl, rfl, rfl, trivial⟩ XK T N5 Cut.base T5 O5 fun h6 tk6 own6 fr6 b6 u6 T6 F6 N6 O6 R6 => ?_
  obtain ⟨rfl, kp6, ⟨o6, mo6, eo6⟩, ⟨p6, mp6, ep6⟩⟩ := R6
  have go : ∀ {a : Addr} {o : Obj}, (a, o) ∈ own5 → (∀ v, o.data ≠ .cell v) → (a, o) ∈ own6 := fun ha n => kp6 _ ha (cell ha q1 e1 n) (cell ha qa ea n)
  have s1' : SetAt own6 S D Ls xs := setAt_by s1 (fun o ho => by
    have e := (N5 _ (List.mem_append_left _ ho)).1.symm.trans (N5 _ (List.mem_append_left _ s1.hS)).1
    cases e
    exact go ho (fun v e => by cases e)) (fun o ho => by
    obtain ⟨x, y, z⟩ := s1.hD
    have e := (N5 _ (List.mem_append_left _ ho)).1.symm.trans (N5 _ (List.mem_append_left _ z)).1
    cases e
    exact go ho (fun v e => by cases e)) (fun o ho => by
    obtain ⟨x, z⟩ := s1.hL
    have e := (N5 _ (List.mem_append_left _ ho)).1.symm.trans (N5 _ (List.mem_append_left _ z)).1
    cases e
    exact go ho (fun v e => by cases e))
  have s2' : SetAt own6 T' E Lt ys := setAt_by s2 (fun o ho => by
    have e := (N5 _ (List.mem_append_left _ ho)).1.symm.trans (N5 _ (List.mem_append_left _ s2.hS)).1
    cases e
    exact go ho (fun v e => by cases e)) (fun o ho => by
    obtain ⟨x, y, z⟩ := s2.hD
    have e := (N5 _ (List.mem_append_left _ ho)).1.symm.trans (N5 _ (List.mem_append_left _ z)).1
    cases e
    exact go ho (fun v e => by cases e)) (fun o ho => by
    obtain ⟨x, z⟩ := s2.hL
    have e := (N5 _ (List.mem_append_left _ ho)).1.symm.trans (N5 _ (List.mem_append_left _ z)).1
    cases e
    exact go ho (fun v e => by cases e))
  have hr' := go hr (fun v e => by cases e)
  have hq' := go hq (fun v e => by cases e)
  have u74 := go q74 (fun v e => by cases e)
  have u81 := go q81 (fun v e => by cases e)
  have uNL := go qNL (fun v e => by cases e)
  clear F5 N5 cell s1 s2 hP hW hr hq kq5 c1 c2 c3 c4 c5 c6 c7 c8 c9 c10 c11 c12 c13 c14 c15 nk i1 i2 i3 i4 i5 i6 i7 i8 k1 k2 k3 k4 k5 k6 k7 k8 q1 qa q74 q81 qNL kp6 go
  dsimp only
  have hd8' : d.length ≤ 8 := by omega
  refine wpAny_execs_cons ?_
  refine BlkCE.use (st_5 (TT := .ref ta) (NL := NL) (T := T') dom htc hd8' gx gy hr' hq' mp6 ep6) rfl rfl F6 ⟨rfl, rfl, rfl, rfl, trivial⟩ XK T N6 Cut.base T6 O6 fun h7 tk7 own7 fr7 b7 u7 T7 F7 N7 O7 R7 => ?_
  obtain ⟨lL, lM, nl, nm, rfl, kq7, ml, mm⟩ := R7
  clear F6 N6
  dsimp only
  obtain ⟨n1, t1, hn1⟩ := hnv 1 (by decide)
  obtain ⟨j1, hj1, hj12⟩ := fmod_nat (Int.fdiv n1 9) 8 (by decide)
  change Int.fmod (Int.fdiv n1 9) 8 = (j1 : Int) at hj1
  have hj1d : j1 < d.length := by omega
  have h5d : 5 < d.length := by omega
  refine wpAny_execs_cons ?_
  refine BlkCE.use (st_6 (T := T') (q := q) (lL := lL) (lM := lM) hd8' (htup w) (kq7 _ uNL) (by omega) (by omega) hn1 hj1 hj1d rfl h5d rfl) rfl rfl F7 ⟨rfl, rfl, rfl, rfl, rfl, rfl, trivial⟩ XK T N7 Cut.base T7 O7 fun h8 tk8 own8 fr8 b8 u8 T8 F8 N8 O8 R8 => ?_
  obtain ⟨sm, nsm, tq, rfl, kq8, msm⟩ := R8
  clear F7 N7
  dsimp only
  have up8 : Kq own6 own8 := kq7.trans kq8
  have gd : ∀ {j : Nat}, j < d.length → d.getD j .none ∈ d := fun {j} hj => by
    rw [List.getD_eq_getElem?_getD, List.getElem?_eq_getElem hj]
    exact List.getElem_mem _
  have hd : QIn d own8 L S D Ls T' E Lt r q lL lM sm xs ys (d.getD j1 .none) (d.getD 5 .none) nr nq nl nm nsm o6 p6 :=
    ⟨dom, htc, hd8', s1'.toQ up8, s2'.toQ up8, up8 _ hr', up8 _ hq', kq8 _ ml, kq8 _ mm, msm, gx, gy, gd hj1d, gd h5d, up8 _ mo6, eo6, up8 _ mp6, ep6⟩
  refine wpAny_execs_cons ?_
  refine BlkCE.use (q_0 hd (NL := NL) (TT := .ref ta)) rfl rfl F8 ⟨rfl, rfl, rfl, rfl, rfl, rfl, rfl, rfl, trivial⟩ XK T N8 Cut.base T8 O8 fun h9 tk9 own9 fr9 b9 u9 T9 F9 N9 O9 R9 => ?_
  obtain ⟨a0, b0, rfl, kq9, sm9⟩ := R9
  clear F8 N8
  dsimp only
  obtain ⟨_, _, _, z1, z2, z3, z4, z5, z6, z7, _, _, z8, z9, z10, _, z11, _⟩ := hd
  have hd9 : QIn d own9 L S D Ls T' E Lt r q lL lM sm xs ys (d.getD j1 .none) (d.getD 5 .none) nr nq nl nm nsm o6 p6 :=
    ⟨dom, htc, hd8', z1.toQ kq9, z2.toQ kq9, kq9 _ z3, kq9 _ z4, kq9 _ z5, kq9 _ z6, kq9 _ z7, gx, gy, z8, z9, kq9 _ z10, eo6, kq9 _ z11, ep6⟩
  have hg9 : AllBare s₁.gens := AllBare.of_eq hg
  refine wpAny_execs_cons ?_
  refine BlkGE.use (qchain hd9 (NL := NL) (TT := .ref ta) (kq9 _ (up8 _ u74)) (kq9 _ (up8 _ u81)) sm9) rfl rfl hg9 F9 ⟨rfl, rfl, rfl, rfl, rfl, rfl, rfl, rfl, rfl, rfl, trivial⟩ XK T N9 Cut.base T9 O9 fun s10 own10 fr10 b10 u10 B10 os10 T10 F10 N10 O10 R10 => ?_
  obtain ⟨a1, b1, p1, p2, rfl, kt, w74, w81, sm10⟩ := R10
  dsimp only
  have tne : ∀ {a : Addr} {o : Obj}, (a, o) ∈ own9 → o ≠ tbl #[] → (a, o) ∈ own10 := fun ha n => kt _ ha (ne_of_objs N9 (List.mem_append_left _ ha) (List.mem_append_left _ (kq9 _ (up8 _ u74))) n) (ne_of_objs N9 (List.mem_append_left _ ha) (List.mem_append_left _ (kq9 _ (up8 _ u81))) n)
  obtain ⟨_, _, _, z1, z2, z3, z4, _, _, _, _, _, _, _, z10, _, z11, _⟩ := hd9
  have o6n : o6 ≠ tbl #[] := fun e => by rw [e] at eo6; cases eo6
  have p6n : p6 ≠ tbl #[] := fun e => by rw [e] at ep6; cases ep6
  have s10 : SetAt own10 S D Ls xs := setAt_by z1 (fun o ho => by
    have e := (N9 _ (List.mem_append_left _ ho)).1.symm.trans (N9 _ (List.mem_append_left _ z1.hS)).1
    cases e
    exact tne ho (fun e => by cases e)) (fun o ho => by
    obtain ⟨x, y, z⟩ := z1.hD
    have e := (N9 _ (List.mem_append_left _ ho)).1.symm.trans (N9 _ (List.mem_append_left _ z)).1
    cases e
    exact tne ho (fun e => by cases e)) (fun o ho => by
    obtain ⟨x, z⟩ := z1.hL
    have e := (N9 _ (List.mem_append_left _ ho)).1.symm.trans (N9 _ (List.mem_append_left _ z)).1
    cases e
    exact tne ho (fun e => by cases e))
  have s20 : SetAt own10 T' E Lt ys := setAt_by z2 (fun o ho => by
    have e := (N9 _ (List.mem_append_left _ ho)).1.symm.trans (N9 _ (List.mem_append_left _ z2.hS)).1
    cases e
    exact tne ho (fun e => by cases e)) (fun o ho => by
    obtain ⟨x, y, z⟩ := z2.hD
    have e := (N9 _ (List.mem_append_left _ ho)).1.symm.trans (N9 _ (List.mem_append_left _ z)).1
    cases e
    exact tne ho (fun e => by cases e)) (fun o ho => by
    obtain ⟨x, z⟩ := z2.hL
    have e := (N9 _ (List.mem_append_left _ ho)).1.symm.trans (N9 _ (List.mem_append_left _ z)).1
    cases e
    exact tne ho (fun e => by cases e))
  have r10 := tne z3 (fun e => by cases e)
  have q10 := tne z4 (fun e => by cases e)
  have c10 := tne z10 o6n
  have ca10 := tne z11 p6n
  clear F9 N9 tne
  refine wpAny_execs_cons ?_
  refine BlkCE.use (st_9 (ys := ys) (nq := nq) (NL := NL) (T := T') (E := E) (Lt := Lt) (q := q) (lL := lL) (lM := lM) (sm := sm) (qn := Int.fmod n1 9) (tq := tq) dom htc hd8' s10 r10 gx (htup w) c10 eo6 ca10 ep6 sm10) rfl rfl F10 ⟨rfl, rfl, rfl, rfl, rfl, rfl, rfl, rfl, rfl, rfl, trivial⟩ XK T N10 Cut.base T10 O10 fun h11 tk11 own11 fr11 b11 u11 T11 F11 N11 O11 R11 => ?_
  obtain ⟨rfl, kq11⟩ := R11
  clear F10 N10
  dsimp only
  refine wpAny_execs_cons ?_
  refine st_10 dom htc hd8' (s10.toQ kq11) (s20.toQ kq11) (kq11 _ r10) (kq11 _ q10) gx gy (kq11 _ c10) eo6 (kq11 _ ca10) ep6 rfl F11 XK T N11 T11 fun h12 tk12 fr12 own12 T12 kq12 K12 N12 => ?_
  dsimp only
  exact kk _ (fin h12 K12 _ _ (N12 _ (List.mem_append_left _ (kq12 _ (kq11 _ w74)))).1 (N12 _ (List.mem_append_left _ (kq12 _ (kq11 _ w81)))).1) os10 B10
end
section
example : True := by w_top off; trivial
theorem rec_names {p : Program} (e : ((recsOf p).all fun d => lawNames.contains d.name) = true) : ∀ d ∈ recsOf p, d.name ∈ lawNames := fun d hd => by
  have := List.all_eq_true.mp e d hd
  simpa using this
theorem law_all {w : World} {prog : Program} {s₁ : Shared} {h₁ : Heap} {tk : Nat} {L fa l : Addr} {cd : Value} {os o1 oa : Obj} {v1 va : Option Value} {vs : List Value} {ns : List Int} {m mg mb : Str → Option Value} {p : Program} {loose : List Str} {mean : ExcName → Option Value} {Q : Flow → Shared → Prop} {E : Value → Shared → Prop} {A : Around} {body : List Stmt} {sc : Scope} {nm : Str}
    (hA : Fits A 302 7 [envOfC nm sc L fa cd]) (hbd : body = lawBody) (hsc : sc = lawScope) (hnm : nm = "law")
    (X : (heapT w.params).In s₁.heap) (T₀ : Top p loose mean mg mb s₁.heap) (hrec : ∀ d ∈ recsOf p, d.name ∈ lawNames) (hown : ownsOf p = []) (hg : s₁.gens = #[]) (hL : s₁.heap.IsList l vs.toArray) (hI : IntsAre vs ns) (hz : ns.length ≤ 63)
    (F₀ : Fr s₁.heap L h₁ m) (N₀ : News s₁.heap L h₁ [(L + 1 + 1 + 1, oa), (L + 1 + 1, o1), (L + 1, os)]) (ea : oa.data = .cell va) (e1 : o1.data = .cell v1) (es : os.data = .cell (some (.ref l)))
    (kk : ∀ s' : Shared, OldK s₁.heap s'.heap → s'.os = s₁.os → AllBare s'.gens → Q (.ret (.bool true)) s') :
    wpAny (model prog w) A (execs body (envOfC nm sc L fa cd)) Q E { s₁ with heap := h₁, toks := tk } := by
  subst hbd
  subst hsc
  subst hnm
  exact hA.wp (PySem.wpAny_noRaise (law_ret X T₀ hrec hown hg hL hI (by rw [hI.length]; exact hz) F₀ N₀ ea e1 es kk))
end
section
example : True := by w_top off; trivial
def addrT : List Addr := [74, 81, 2, 3, 15, 17, 18, 20, 21, 22, 29, 30, 31, 33, 34, 36, 37, 38, 40, 41, 43, 44, 45, 47, 48, 50, 51, 52, 54, 55, 57, 58, 59, 61, 62, 64, 65, 66, 68, 69, 71, 72, 73, 75, 76, 78, 79, 80, 82, 83, 85, 86, 87, 89, 90, 92, 93, 94, 96, 97, 99, 100, 101, 103, 104, 106, 107, 108, 110, 111, 113, 114, 115, 117, 118, 120, 121, 122, 124, 125, 127, 128, 129, 131, 132, 134, 135, 136, 138, 139, 141, 142, 143, 145, 146, 148, 149, 150, 152, 153, 155, 156, 157, 159, 160, 162, 163, 164, 166, 167, 169, 170, 171, 173, 174, 176, 177, 178, 180, 181, 183, 184, 185, 187, 188, 190, 191, 192, 194, 195, 197, 198, 199, 201, 202, 204, 205, 206, 208, 209, 211, 212, 213, 215, 216, 218, 219, 220, 222, 223, 225, 226, 227, 229, 230, 232, 233, 234, 236, 237, 239, 240, 241, 243, 244, 246, 247, 248, 250, 251, 253, 254, 255, 257, 258, 260, 261, 262, 264, 265, 267, 268, 269, 271, 272, 274, 275, 276, 278, 279, 281, 282, 283, 285, 286, 288, 289, 290, 292, 293, 295, 296, 297, 299, 300, 302, 303, 304, 305, 306, 307, 308, 311, 312, 313, 314, 316, 317, 319, 320, 321, 324, 325, 326, 329, 330, 331, 334, 335]
theorem addrT_eq : ∀ P, addrT = (heapT P).map (·.1) := fun _ => by kernel_rfl
end
end Mine
set_option maxHeartbeats 8000000 in
theorem PySem.Challenge.cw_vj0003_01_holds : PySem.Challenge.rw_vj0003_01.Holds := by
  w_on
  o_law
  o_head (kHook Mine.heapT Mine.addrT Mine.addrT_eq)
  (case hw => w_witness2)
  w_strict lge_go0
  rename (kHook _ _ _).says _ _ => Y
  refine Mine.law_all ⟨rfl, Nat.le_of_ble_eq_true rfl, rfl, rfl, Nat.le_of_ble_eq_true rfl⟩ (by rfl) (by rfl) (by rfl) Y (by assumption) (Mine.rec_names (by decide +kernel)) (by kernel_rfl) (by assumption) (by assumption) (by assumption) (by omega) (by assumption) (by assumption) (by assumption) (by assumption) (by assumption) ?kk
  case kk =>
    intro s' hK hos hb
    refine ⟨.inl ⟨_, _, _, rfl, ?_, .bool true, ?_, ?_⟩, hK, hos, hb⟩
    · exact fun _ => rfl
    · exact postW_of (by wrow_shape) (by wtm_val) (by str_meet; first | done | w_fin)
    · exact fun _ => ⟨List.nodup_nil, fun a ha => nomatch ha⟩
