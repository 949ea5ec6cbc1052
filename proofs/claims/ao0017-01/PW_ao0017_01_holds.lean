import PyProof.Rows.All
import Wide.All
import OpenK.AllK
import Wide.FinOn
import Lean
import PySem.Challenge.RW_ao0017_01
open PySem PySem.W PyProof.Rows PySem.Calls PySem.Spec
set_option Elab.async false
set_option maxRecDepth 100000
set_option maxHeartbeats 4000000
set_option linter.all false
set_option hygiene false
set_option compiler.extract_closed false
namespace Mine
noncomputable abbrev PGM : Program := PySem.Challenge.rw_ao0017_01.row.toRowW.1
noncomputable def noSt : Stmt := .Pass ⟨0, 0, 0, 0⟩
noncomputable def stAt (i : Nat) : Stmt := PGM.main.body.getD i noSt
noncomputable def inCls (i j : Nat) : Stmt := match stAt i with | .ClassDef _ _ _ b .. => b.getD j noSt | s => s
noncomputable def fdA (s : Stmt) : Arguments := match s with | .FunctionDef _ a .. => a | _ => ⟨[], [], none, [], [], none, []⟩
noncomputable def fdB (s : Stmt) : List Stmt := match s with | .FunctionDef _ _ b .. => b | _ => []
noncomputable def fdC (s : Stmt) : Scope := match s with | .FunctionDef _ _ _ _ _ _ c .. => c | _ => ⟨.function, [], false, false, []⟩
noncomputable def Aq__wall : Arguments := by
  refine (?f : (b : Arguments) → fdA (stAt 0) = b → Arguments) ?b ?h
  case f => exact fun b _ => b
  case h => conv => lhs; whnf
noncomputable def Bq__wall : List Stmt := by
  refine (?f : (b : List Stmt) → fdB (stAt 0) = b → List Stmt) ?b ?h
  case f => exact fun b _ => b
  case h => conv => lhs; whnf
noncomputable def Cq__wall : Scope := by
  refine (?f : (b : Scope) → fdC (stAt 0) = b → Scope) ?b ?h
  case f => exact fun b _ => b
  case h => conv => lhs; whnf
noncomputable def Aq_get_bytes : Arguments := by
  refine (?f : (b : Arguments) → fdA (stAt 6) = b → Arguments) ?b ?h
  case f => exact fun b _ => b
  case h => conv => lhs; whnf
noncomputable def Bq_get_bytes : List Stmt := by
  refine (?f : (b : List Stmt) → fdB (stAt 6) = b → List Stmt) ?b ?h
  case f => exact fun b _ => b
  case h => conv => lhs; whnf
noncomputable def Cq_get_bytes : Scope := by
  refine (?f : (b : Scope) → fdC (stAt 6) = b → Scope) ?b ?h
  case f => exact fun b _ => b
  case h => conv => lhs; whnf
noncomputable def Aq__law_steps : Arguments := by
  refine (?f : (b : Arguments) → fdA (stAt 11) = b → Arguments) ?b ?h
  case f => exact fun b _ => b
  case h => conv => lhs; whnf
noncomputable def Bq__law_steps : List Stmt := by
  refine (?f : (b : List Stmt) → fdB (stAt 11) = b → List Stmt) ?b ?h
  case f => exact fun b _ => b
  case h => conv => lhs; whnf
noncomputable def Cq__law_steps : Scope := by
  refine (?f : (b : Scope) → fdC (stAt 11) = b → Scope) ?b ?h
  case f => exact fun b _ => b
  case h => conv => lhs; whnf
noncomputable def Aq__law_rows : Arguments := by
  refine (?f : (b : Arguments) → fdA (stAt 13) = b → Arguments) ?b ?h
  case f => exact fun b _ => b
  case h => conv => lhs; whnf
noncomputable def Bq__law_rows : List Stmt := by
  refine (?f : (b : List Stmt) → fdB (stAt 13) = b → List Stmt) ?b ?h
  case f => exact fun b _ => b
  case h => conv => lhs; whnf
noncomputable def Cq__law_rows : Scope := by
  refine (?f : (b : Scope) → fdC (stAt 13) = b → Scope) ?b ?h
  case f => exact fun b _ => b
  case h => conv => lhs; whnf
noncomputable def Aq__law_near : Arguments := by
  refine (?f : (b : Arguments) → fdA (stAt 14) = b → Arguments) ?b ?h
  case f => exact fun b _ => b
  case h => conv => lhs; whnf
noncomputable def Bq__law_near : List Stmt := by
  refine (?f : (b : List Stmt) → fdB (stAt 14) = b → List Stmt) ?b ?h
  case f => exact fun b _ => b
  case h => conv => lhs; whnf
noncomputable def Cq__law_near : Scope := by
  refine (?f : (b : Scope) → fdC (stAt 14) = b → Scope) ?b ?h
  case f => exact fun b _ => b
  case h => conv => lhs; whnf
noncomputable def Aq__law_coded : Arguments := by
  refine (?f : (b : Arguments) → fdA (stAt 15) = b → Arguments) ?b ?h
  case f => exact fun b _ => b
  case h => conv => lhs; whnf
noncomputable def Bq__law_coded : List Stmt := by
  refine (?f : (b : List Stmt) → fdB (stAt 15) = b → List Stmt) ?b ?h
  case f => exact fun b _ => b
  case h => conv => lhs; whnf
noncomputable def Cq__law_coded : Scope := by
  refine (?f : (b : Scope) → fdC (stAt 15) = b → Scope) ?b ?h
  case f => exact fun b _ => b
  case h => conv => lhs; whnf
noncomputable def Aq__law_octets : Arguments := by
  refine (?f : (b : Arguments) → fdA (stAt 16) = b → Arguments) ?b ?h
  case f => exact fun b _ => b
  case h => conv => lhs; whnf
noncomputable def Bq__law_octets : List Stmt := by
  refine (?f : (b : List Stmt) → fdB (stAt 16) = b → List Stmt) ?b ?h
  case f => exact fun b _ => b
  case h => conv => lhs; whnf
noncomputable def Cq__law_octets : Scope := by
  refine (?f : (b : Scope) → fdC (stAt 16) = b → Scope) ?b ?h
  case f => exact fun b _ => b
  case h => conv => lhs; whnf
noncomputable def Aq__law_packed : Arguments := by
  refine (?f : (b : Arguments) → fdA (stAt 17) = b → Arguments) ?b ?h
  case f => exact fun b _ => b
  case h => conv => lhs; whnf
noncomputable def Bq__law_packed : List Stmt := by
  refine (?f : (b : List Stmt) → fdB (stAt 17) = b → List Stmt) ?b ?h
  case f => exact fun b _ => b
  case h => conv => lhs; whnf
noncomputable def Cq__law_packed : Scope := by
  refine (?f : (b : Scope) → fdC (stAt 17) = b → Scope) ?b ?h
  case f => exact fun b _ => b
  case h => conv => lhs; whnf
noncomputable def Aq_law : Arguments := by
  refine (?f : (b : Arguments) → fdA (stAt 18) = b → Arguments) ?b ?h
  case f => exact fun b _ => b
  case h => conv => lhs; whnf
noncomputable def Bq_law : List Stmt := by
  refine (?f : (b : List Stmt) → fdB (stAt 18) = b → List Stmt) ?b ?h
  case f => exact fun b _ => b
  case h => conv => lhs; whnf
noncomputable def Cq_law : Scope := by
  refine (?f : (b : Scope) → fdC (stAt 18) = b → Scope) ?b ?h
  case f => exact fun b _ => b
  case h => conv => lhs; whnf
noncomputable def Aq_BitParser___init__ : Arguments := by
  refine (?f : (b : Arguments) → fdA (inCls 7 0) = b → Arguments) ?b ?h
  case f => exact fun b _ => b
  case h => conv => lhs; whnf
noncomputable def Bq_BitParser___init__ : List Stmt := by
  refine (?f : (b : List Stmt) → fdB (inCls 7 0) = b → List Stmt) ?b ?h
  case f => exact fun b _ => b
  case h => conv => lhs; whnf
noncomputable def Cq_BitParser___init__ : Scope := by
  refine (?f : (b : Scope) → fdC (inCls 7 0) = b → Scope) ?b ?h
  case f => exact fun b _ => b
  case h => conv => lhs; whnf
noncomputable def Aq_BitParser_add : Arguments := by
  refine (?f : (b : Arguments) → fdA (inCls 7 1) = b → Arguments) ?b ?h
  case f => exact fun b _ => b
  case h => conv => lhs; whnf
noncomputable def Bq_BitParser_add : List Stmt := by
  refine (?f : (b : List Stmt) → fdB (inCls 7 1) = b → List Stmt) ?b ?h
  case f => exact fun b _ => b
  case h => conv => lhs; whnf
noncomputable def Cq_BitParser_add : Scope := by
  refine (?f : (b : Scope) → fdC (inCls 7 1) = b → Scope) ?b ?h
  case f => exact fun b _ => b
  case h => conv => lhs; whnf
noncomputable def Aq_BitParser_feedbytes : Arguments := by
  refine (?f : (b : Arguments) → fdA (inCls 7 2) = b → Arguments) ?b ?h
  case f => exact fun b _ => b
  case h => conv => lhs; whnf
noncomputable def Bq_BitParser_feedbytes : List Stmt := by
  refine (?f : (b : List Stmt) → fdB (inCls 7 2) = b → List Stmt) ?b ?h
  case f => exact fun b _ => b
  case h => conv => lhs; whnf
noncomputable def Cq_BitParser_feedbytes : Scope := by
  refine (?f : (b : Scope) → fdC (inCls 7 2) = b → Scope) ?b ?h
  case f => exact fun b _ => b
  case h => conv => lhs; whnf
noncomputable def Aq_BitParser__parse_bit : Arguments := by
  refine (?f : (b : Arguments) → fdA (inCls 7 3) = b → Arguments) ?b ?h
  case f => exact fun b _ => b
  case h => conv => lhs; whnf
noncomputable def Bq_BitParser__parse_bit : List Stmt := by
  refine (?f : (b : List Stmt) → fdB (inCls 7 3) = b → List Stmt) ?b ?h
  case f => exact fun b _ => b
  case h => conv => lhs; whnf
noncomputable def Cq_BitParser__parse_bit : Scope := by
  refine (?f : (b : Scope) → fdC (inCls 7 3) = b → Scope) ?b ?h
  case f => exact fun b _ => b
  case h => conv => lhs; whnf
noncomputable def Aq_CCITTG4Parser___init__ : Arguments := by
  refine (?f : (b : Arguments) → fdA (inCls 8 8) = b → Arguments) ?b ?h
  case f => exact fun b _ => b
  case h => conv => lhs; whnf
noncomputable def Bq_CCITTG4Parser___init__ : List Stmt := by
  refine (?f : (b : List Stmt) → fdB (inCls 8 8) = b → List Stmt) ?b ?h
  case f => exact fun b _ => b
  case h => conv => lhs; whnf
noncomputable def Cq_CCITTG4Parser___init__ : Scope := by
  refine (?f : (b : Scope) → fdC (inCls 8 8) = b → Scope) ?b ?h
  case f => exact fun b _ => b
  case h => conv => lhs; whnf
noncomputable def Aq_CCITTG4Parser_feedbytes : Arguments := by
  refine (?f : (b : Arguments) → fdA (inCls 8 9) = b → Arguments) ?b ?h
  case f => exact fun b _ => b
  case h => conv => lhs; whnf
noncomputable def Bq_CCITTG4Parser_feedbytes : List Stmt := by
  refine (?f : (b : List Stmt) → fdB (inCls 8 9) = b → List Stmt) ?b ?h
  case f => exact fun b _ => b
  case h => conv => lhs; whnf
noncomputable def Cq_CCITTG4Parser_feedbytes : Scope := by
  refine (?f : (b : Scope) → fdC (inCls 8 9) = b → Scope) ?b ?h
  case f => exact fun b _ => b
  case h => conv => lhs; whnf
noncomputable def Aq_CCITTG4Parser__parse_mode : Arguments := by
  refine (?f : (b : Arguments) → fdA (inCls 8 10) = b → Arguments) ?b ?h
  case f => exact fun b _ => b
  case h => conv => lhs; whnf
noncomputable def Bq_CCITTG4Parser__parse_mode : List Stmt := by
  refine (?f : (b : List Stmt) → fdB (inCls 8 10) = b → List Stmt) ?b ?h
  case f => exact fun b _ => b
  case h => conv => lhs; whnf
noncomputable def Cq_CCITTG4Parser__parse_mode : Scope := by
  refine (?f : (b : Scope) → fdC (inCls 8 10) = b → Scope) ?b ?h
  case f => exact fun b _ => b
  case h => conv => lhs; whnf
noncomputable def Aq_CCITTG4Parser__parse_horiz1 : Arguments := by
  refine (?f : (b : Arguments) → fdA (inCls 8 11) = b → Arguments) ?b ?h
  case f => exact fun b _ => b
  case h => conv => lhs; whnf
noncomputable def Bq_CCITTG4Parser__parse_horiz1 : List Stmt := by
  refine (?f : (b : List Stmt) → fdB (inCls 8 11) = b → List Stmt) ?b ?h
  case f => exact fun b _ => b
  case h => conv => lhs; whnf
noncomputable def Cq_CCITTG4Parser__parse_horiz1 : Scope := by
  refine (?f : (b : Scope) → fdC (inCls 8 11) = b → Scope) ?b ?h
  case f => exact fun b _ => b
  case h => conv => lhs; whnf
noncomputable def Aq_CCITTG4Parser__parse_horiz2 : Arguments := by
  refine (?f : (b : Arguments) → fdA (inCls 8 12) = b → Arguments) ?b ?h
  case f => exact fun b _ => b
  case h => conv => lhs; whnf
noncomputable def Bq_CCITTG4Parser__parse_horiz2 : List Stmt := by
  refine (?f : (b : List Stmt) → fdB (inCls 8 12) = b → List Stmt) ?b ?h
  case f => exact fun b _ => b
  case h => conv => lhs; whnf
noncomputable def Cq_CCITTG4Parser__parse_horiz2 : Scope := by
  refine (?f : (b : Scope) → fdC (inCls 8 12) = b → Scope) ?b ?h
  case f => exact fun b _ => b
  case h => conv => lhs; whnf
noncomputable def Aq_CCITTG4Parser__parse_uncompressed : Arguments := by
  refine (?f : (b : Arguments) → fdA (inCls 8 13) = b → Arguments) ?b ?h
  case f => exact fun b _ => b
  case h => conv => lhs; whnf
noncomputable def Bq_CCITTG4Parser__parse_uncompressed : List Stmt := by
  refine (?f : (b : List Stmt) → fdB (inCls 8 13) = b → List Stmt) ?b ?h
  case f => exact fun b _ => b
  case h => conv => lhs; whnf
noncomputable def Cq_CCITTG4Parser__parse_uncompressed : Scope := by
  refine (?f : (b : Scope) → fdC (inCls 8 13) = b → Scope) ?b ?h
  case f => exact fun b _ => b
  case h => conv => lhs; whnf
noncomputable def Aq_CCITTG4Parser__get_bits : Arguments := by
  refine (?f : (b : Arguments) → fdA (inCls 8 14) = b → Arguments) ?b ?h
  case f => exact fun b _ => b
  case h => conv => lhs; whnf
noncomputable def Bq_CCITTG4Parser__get_bits : List Stmt := by
  refine (?f : (b : List Stmt) → fdB (inCls 8 14) = b → List Stmt) ?b ?h
  case f => exact fun b _ => b
  case h => conv => lhs; whnf
noncomputable def Cq_CCITTG4Parser__get_bits : Scope := by
  refine (?f : (b : Scope) → fdC (inCls 8 14) = b → Scope) ?b ?h
  case f => exact fun b _ => b
  case h => conv => lhs; whnf
noncomputable def Aq_CCITTG4Parser__get_refline : Arguments := by
  refine (?f : (b : Arguments) → fdA (inCls 8 15) = b → Arguments) ?b ?h
  case f => exact fun b _ => b
  case h => conv => lhs; whnf
noncomputable def Bq_CCITTG4Parser__get_refline : List Stmt := by
  refine (?f : (b : List Stmt) → fdB (inCls 8 15) = b → List Stmt) ?b ?h
  case f => exact fun b _ => b
  case h => conv => lhs; whnf
noncomputable def Cq_CCITTG4Parser__get_refline : Scope := by
  refine (?f : (b : Scope) → fdC (inCls 8 15) = b → Scope) ?b ?h
  case f => exact fun b _ => b
  case h => conv => lhs; whnf
noncomputable def Aq_CCITTG4Parser_reset : Arguments := by
  refine (?f : (b : Arguments) → fdA (inCls 8 16) = b → Arguments) ?b ?h
  case f => exact fun b _ => b
  case h => conv => lhs; whnf
noncomputable def Bq_CCITTG4Parser_reset : List Stmt := by
  refine (?f : (b : List Stmt) → fdB (inCls 8 16) = b → List Stmt) ?b ?h
  case f => exact fun b _ => b
  case h => conv => lhs; whnf
noncomputable def Cq_CCITTG4Parser_reset : Scope := by
  refine (?f : (b : Scope) → fdC (inCls 8 16) = b → Scope) ?b ?h
  case f => exact fun b _ => b
  case h => conv => lhs; whnf
noncomputable def Aq_CCITTG4Parser_output_line : Arguments := by
  refine (?f : (b : Arguments) → fdA (inCls 8 17) = b → Arguments) ?b ?h
  case f => exact fun b _ => b
  case h => conv => lhs; whnf
noncomputable def Bq_CCITTG4Parser_output_line : List Stmt := by
  refine (?f : (b : List Stmt) → fdB (inCls 8 17) = b → List Stmt) ?b ?h
  case f => exact fun b _ => b
  case h => conv => lhs; whnf
noncomputable def Cq_CCITTG4Parser_output_line : Scope := by
  refine (?f : (b : Scope) → fdC (inCls 8 17) = b → Scope) ?b ?h
  case f => exact fun b _ => b
  case h => conv => lhs; whnf
noncomputable def Aq_CCITTG4Parser__reset_line : Arguments := by
  refine (?f : (b : Arguments) → fdA (inCls 8 18) = b → Arguments) ?b ?h
  case f => exact fun b _ => b
  case h => conv => lhs; whnf
noncomputable def Bq_CCITTG4Parser__reset_line : List Stmt := by
  refine (?f : (b : List Stmt) → fdB (inCls 8 18) = b → List Stmt) ?b ?h
  case f => exact fun b _ => b
  case h => conv => lhs; whnf
noncomputable def Cq_CCITTG4Parser__reset_line : Scope := by
  refine (?f : (b : Scope) → fdC (inCls 8 18) = b → Scope) ?b ?h
  case f => exact fun b _ => b
  case h => conv => lhs; whnf
noncomputable def Aq_CCITTG4Parser__flush_line : Arguments := by
  refine (?f : (b : Arguments) → fdA (inCls 8 19) = b → Arguments) ?b ?h
  case f => exact fun b _ => b
  case h => conv => lhs; whnf
noncomputable def Bq_CCITTG4Parser__flush_line : List Stmt := by
  refine (?f : (b : List Stmt) → fdB (inCls 8 19) = b → List Stmt) ?b ?h
  case f => exact fun b _ => b
  case h => conv => lhs; whnf
noncomputable def Cq_CCITTG4Parser__flush_line : Scope := by
  refine (?f : (b : Scope) → fdC (inCls 8 19) = b → Scope) ?b ?h
  case f => exact fun b _ => b
  case h => conv => lhs; whnf
noncomputable def Aq_CCITTG4Parser__do_vertical : Arguments := by
  refine (?f : (b : Arguments) → fdA (inCls 8 20) = b → Arguments) ?b ?h
  case f => exact fun b _ => b
  case h => conv => lhs; whnf
noncomputable def Bq_CCITTG4Parser__do_vertical : List Stmt := by
  refine (?f : (b : List Stmt) → fdB (inCls 8 20) = b → List Stmt) ?b ?h
  case f => exact fun b _ => b
  case h => conv => lhs; whnf
noncomputable def Cq_CCITTG4Parser__do_vertical : Scope := by
  refine (?f : (b : Scope) → fdC (inCls 8 20) = b → Scope) ?b ?h
  case f => exact fun b _ => b
  case h => conv => lhs; whnf
noncomputable def Aq_CCITTG4Parser__do_pass : Arguments := by
  refine (?f : (b : Arguments) → fdA (inCls 8 21) = b → Arguments) ?b ?h
  case f => exact fun b _ => b
  case h => conv => lhs; whnf
noncomputable def Bq_CCITTG4Parser__do_pass : List Stmt := by
  refine (?f : (b : List Stmt) → fdB (inCls 8 21) = b → List Stmt) ?b ?h
  case f => exact fun b _ => b
  case h => conv => lhs; whnf
noncomputable def Cq_CCITTG4Parser__do_pass : Scope := by
  refine (?f : (b : Scope) → fdC (inCls 8 21) = b → Scope) ?b ?h
  case f => exact fun b _ => b
  case h => conv => lhs; whnf
noncomputable def Aq_CCITTG4Parser__do_horizontal : Arguments := by
  refine (?f : (b : Arguments) → fdA (inCls 8 22) = b → Arguments) ?b ?h
  case f => exact fun b _ => b
  case h => conv => lhs; whnf
noncomputable def Bq_CCITTG4Parser__do_horizontal : List Stmt := by
  refine (?f : (b : List Stmt) → fdB (inCls 8 22) = b → List Stmt) ?b ?h
  case f => exact fun b _ => b
  case h => conv => lhs; whnf
noncomputable def Cq_CCITTG4Parser__do_horizontal : Scope := by
  refine (?f : (b : Scope) → fdC (inCls 8 22) = b → Scope) ?b ?h
  case f => exact fun b _ => b
  case h => conv => lhs; whnf
noncomputable def Aq_CCITTG4Parser__do_uncompressed : Arguments := by
  refine (?f : (b : Arguments) → fdA (inCls 8 23) = b → Arguments) ?b ?h
  case f => exact fun b _ => b
  case h => conv => lhs; whnf
noncomputable def Bq_CCITTG4Parser__do_uncompressed : List Stmt := by
  refine (?f : (b : List Stmt) → fdB (inCls 8 23) = b → List Stmt) ?b ?h
  case f => exact fun b _ => b
  case h => conv => lhs; whnf
noncomputable def Cq_CCITTG4Parser__do_uncompressed : Scope := by
  refine (?f : (b : Scope) → fdC (inCls 8 23) = b → Scope) ?b ?h
  case f => exact fun b _ => b
  case h => conv => lhs; whnf
noncomputable def Aq_CCITTFaxDecoder___init__ : Arguments := by
  refine (?f : (b : Arguments) → fdA (inCls 9 0) = b → Arguments) ?b ?h
  case f => exact fun b _ => b
  case h => conv => lhs; whnf
noncomputable def Bq_CCITTFaxDecoder___init__ : List Stmt := by
  refine (?f : (b : List Stmt) → fdB (inCls 9 0) = b → List Stmt) ?b ?h
  case f => exact fun b _ => b
  case h => conv => lhs; whnf
noncomputable def Cq_CCITTFaxDecoder___init__ : Scope := by
  refine (?f : (b : Scope) → fdC (inCls 9 0) = b → Scope) ?b ?h
  case f => exact fun b _ => b
  case h => conv => lhs; whnf
noncomputable def Aq_CCITTFaxDecoder_close : Arguments := by
  refine (?f : (b : Arguments) → fdA (inCls 9 1) = b → Arguments) ?b ?h
  case f => exact fun b _ => b
  case h => conv => lhs; whnf
noncomputable def Bq_CCITTFaxDecoder_close : List Stmt := by
  refine (?f : (b : List Stmt) → fdB (inCls 9 1) = b → List Stmt) ?b ?h
  case f => exact fun b _ => b
  case h => conv => lhs; whnf
noncomputable def Cq_CCITTFaxDecoder_close : Scope := by
  refine (?f : (b : Scope) → fdC (inCls 9 1) = b → Scope) ?b ?h
  case f => exact fun b _ => b
  case h => conv => lhs; whnf
noncomputable def Aq_CCITTFaxDecoder_output_line : Arguments := by
  refine (?f : (b : Arguments) → fdA (inCls 9 2) = b → Arguments) ?b ?h
  case f => exact fun b _ => b
  case h => conv => lhs; whnf
noncomputable def Bq_CCITTFaxDecoder_output_line : List Stmt := by
  refine (?f : (b : List Stmt) → fdB (inCls 9 2) = b → List Stmt) ?b ?h
  case f => exact fun b _ => b
  case h => conv => lhs; whnf
noncomputable def Cq_CCITTFaxDecoder_output_line : Scope := by
  refine (?f : (b : Scope) → fdC (inCls 9 2) = b → Scope) ?b ?h
  case f => exact fun b _ => b
  case h => conv => lhs; whnf
noncomputable def Sq0 : Stmt := by
  refine (?f : (b : Stmt) → stAt 0 = b → Stmt) ?b ?h
  case f => exact fun b _ => b
  case h => conv => lhs; whnf
noncomputable def Sq2 : Stmt := by
  refine (?f : (b : Stmt) → stAt 2 = b → Stmt) ?b ?h
  case f => exact fun b _ => b
  case h => conv => lhs; whnf
noncomputable def Sq4 : Stmt := by
  refine (?f : (b : Stmt) → stAt 4 = b → Stmt) ?b ?h
  case f => exact fun b _ => b
  case h => conv => lhs; whnf
noncomputable def Sq6 : Stmt := by
  refine (?f : (b : Stmt) → stAt 6 = b → Stmt) ?b ?h
  case f => exact fun b _ => b
  case h => conv => lhs; whnf
noncomputable def Sq7 : Stmt := by
  refine (?f : (b : Stmt) → stAt 7 = b → Stmt) ?b ?h
  case f => exact fun b _ => b
  case h => conv => lhs; whnf
noncomputable def Sq8 : Stmt := by
  refine (?f : (b : Stmt) → stAt 8 = b → Stmt) ?b ?h
  case f => exact fun b _ => b
  case h => conv => lhs; whnf
noncomputable def Sq9 : Stmt := by
  refine (?f : (b : Stmt) → stAt 9 = b → Stmt) ?b ?h
  case f => exact fun b _ => b
  case h => conv => lhs; whnf
noncomputable def Sq11 : Stmt := by
  refine (?f : (b : Stmt) → stAt 11 = b → Stmt) ?b ?h
  case f => exact fun b _ => b
  case h => conv => lhs; whnf
noncomputable def Sq12 : Stmt := by
  refine (?f : (b : Stmt) → stAt 12 = b → Stmt) ?b ?h
  case f => exact fun b _ => b
  case h => conv => lhs; whnf
noncomputable def Sq13 : Stmt := by
  refine (?f : (b : Stmt) → stAt 13 = b → Stmt) ?b ?h
  case f => exact fun b _ => b
  case h => conv => lhs; whnf
noncomputable def Sq14 : Stmt := by
  refine (?f : (b : Stmt) → stAt 14 = b → Stmt) ?b ?h
  case f => exact fun b _ => b
  case h => conv => lhs; whnf
noncomputable def Sq15 : Stmt := by
  refine (?f : (b : Stmt) → stAt 15 = b → Stmt) ?b ?h
  case f => exact fun b _ => b
  case h => conv => lhs; whnf
noncomputable def Sq16 : Stmt := by
  refine (?f : (b : Stmt) → stAt 16 = b → Stmt) ?b ?h
  case f => exact fun b _ => b
  case h => conv => lhs; whnf
noncomputable def Sq17 : Stmt := by
  refine (?f : (b : Stmt) → stAt 17 = b → Stmt) ?b ?h
  case f => exact fun b _ => b
  case h => conv => lhs; whnf
noncomputable def Sq18 : Stmt := by
  refine (?f : (b : Stmt) → stAt 18 = b → Stmt) ?b ?h
  case f => exact fun b _ => b
  case h => conv => lhs; whnf
noncomputable def K0 : Params → Frag := fun P => ((
(nat_lit 2, { cls := Value.none, data := Data.dict #[⟨PyData.keyHash P (Str.ofString "type.__subclasses__.Exception.0"),Value.str (Str.ofString "type.__subclasses__.Exception.0") 212,Value.int 31 0⟩, ⟨PyData.keyHash P (Str.ofString "type.__subclasses__.Exception.n"),Value.str (Str.ofString "type.__subclasses__.Exception.n") 213,Value.int 1 0⟩] 2 }) ::
(nat_lit 3, { cls := Value.type "dict", data := Data.dict #[⟨PyData.keyHash P (Str.ofString "__name__"),Value.str (Str.ofString "__name__") 165,Value.str (Str.ofString "law_ao0017_01") 828⟩, ⟨PyData.keyHash P (Str.ofString "__doc__"),Value.str (Str.ofString "__doc__") 166,Value.none⟩, ⟨PyData.keyHash P (Str.ofString "__package__"),Value.str (Str.ofString "__package__") 167,Value.none⟩, ⟨PyData.keyHash P (Str.ofString "__loader__"),Value.str (Str.ofString "__loader__") 168,Value.builtin "__main__.__loader__#opaque"⟩, ⟨PyData.keyHash P (Str.ofString "__spec__"),Value.str (Str.ofString "__spec__") 169,Value.none⟩, ⟨PyData.keyHash P (Str.ofString "__annotations__"),Value.str (Str.ofString "__annotations__") 170,Value.ref 6⟩, ⟨PyData.keyHash P (Str.ofString "__builtins__"),Value.str (Str.ofString "__builtins__") 171,Value.ref 4⟩, ⟨PyData.keyHash P (Str.ofString "__file__"),Value.str (Str.ofString "__file__") 173,Value.str (Str.ofString "/claim/cut.py") 172⟩, ⟨PyData.keyHash P (Str.ofString "__cached__"),Value.str (Str.ofString "__cached__") 174,Value.none⟩, ⟨PyData.keyHash P (Str.ofString "_wall"),Value.str (Str.ofString "_wall") 193,Value.ref 21⟩, ⟨PyData.keyHash P (Str.ofString "PSException"),Value.str (Str.ofString "PSException") 215,Value.ref 31⟩, ⟨PyData.keyHash P (Str.ofString "PDFException"),Value.str (Str.ofString "PDFException") 233,Value.ref 44⟩, ⟨PyData.keyHash P (Str.ofString "get_bytes"),Value.str (Str.ofString "get_bytes") 242,Value.ref 53⟩, ⟨PyData.keyHash P (Str.ofString "BitParser"),Value.str (Str.ofString "BitParser") 312,Value.ref 94⟩, ⟨PyData.keyHash P (Str.ofString "CCITTG4Parser"),Value.str (Str.ofString "CCITTG4Parser") 786,Value.ref 525⟩, ⟨PyData.keyHash P (Str.ofString "CCITTFaxDecoder"),Value.str (Str.ofString "CCITTFaxDecoder") 827,Value.ref 557⟩, ⟨PyData.keyHash P (Str.ofString "_law_steps"),Value.str (Str.ofString "_law_steps") 835,Value.ref 566⟩, ⟨PyData.keyHash P (Str.ofString "_law_runs"),Value.str (Str.ofString "_law_runs") 862,Value.ref 569⟩, ⟨PyData.keyHash P (Str.ofString "_law_rows"),Value.str (Str.ofString "_law_rows") 868,Value.ref 574⟩, ⟨PyData.keyHash P (Str.ofString "_law_near"),Value.str (Str.ofString "_law_near") 878,Value.ref 581⟩, ⟨PyData.keyHash P (Str.ofString "_law_coded"),Value.str (Str.ofString "_law_coded") 892,Value.ref 588⟩, ⟨PyData.keyHash P (Str.ofString "_law_octets"),Value.str (Str.ofString "_law_octets") 910,Value.ref 595⟩, ⟨PyData.keyHash P (Str.ofString "_law_packed"),Value.str (Str.ofString "_law_packed") 916,Value.ref 600⟩, ⟨PyData.keyHash P (Str.ofString "law"),Value.str (Str.ofString "law") 935,Value.ref 607⟩] 24 }) ::
(nat_lit 15, { cls := Value.type "tuple", data := Data.seq #[] }) ::
(nat_lit 17, { cls := Value.type "tuple", data := Data.seq #[Value.str (Str.ofString "k") 190] }) ::
(nat_lit 18, { cls := Value.type "tuple", data := Data.seq #[] }) ::
(nat_lit 20, { cls := Value.type "code", data := Data.fields #[Value.str (Str.ofString "_wall") 187, Value.str (Str.ofString "_wall") 188, Value.str (Str.ofString "/claim/cut.py") 189, Value.int 1 0, Value.int 1 0, Value.int 0 0, Value.int 0 0, Value.int 3 0, Value.ref 15, Value.bool true, Value.int 181 0, Value.ref 16, Value.none, Value.ref 17, Value.ref 18, Value.ref 19, Value.int 191 0, Value.int 1 0, Value.str (Str.ofString "/claim/cut.py") 192] }) ::
(nat_lit 21, { cls := Value.type "function", data := Data.func { name := Str.ofString "_wall", qualname := Str.ofString "_wall", params := Aq__wall, body := FuncBody.stmts Bq__wall, scope := Cq__wall, globals := 3, closure := [], defaults := Value.none, kwdefaults := Value.none, pyModule := Value.str (Str.ofString "__main__") 164, code := Value.ref 20 } }) ::
(nat_lit 22, { cls := Value.type "tuple", data := Data.seq #[Value.type "Exception"] }) ::
(nat_lit 29, { cls := Value.type "tuple", data := Data.seq #[] }) ::
(nat_lit 30, { cls := Value.type "dict", data := Data.dict #[⟨PyData.keyHash P (Str.ofString "__module__"),Value.str (Str.ofString "__module__") 203,Value.str (Str.ofString "pdfminer.psexceptions") 194⟩, ⟨PyData.keyHash P (Str.ofString "__firstlineno__"),Value.str (Str.ofString "__firstlineno__") 207,Value.int 5 206⟩, ⟨PyData.keyHash P (Str.ofString "__static_attributes__"),Value.str (Str.ofString "__static_attributes__") 208,Value.ref 29⟩, ⟨PyData.keyHash P (Str.ofString "__weakref__"),Value.str (Str.ofString "__weakref__") 210,Value.ref 32⟩, ⟨PyData.keyHash P (Str.ofString "__doc__"),Value.str (Str.ofString "__doc__") 211,Value.none⟩] 3 }) ::
(nat_lit 31, { cls := Value.type "type", data := Data.cls { name := Str.ofString "PSException", bases := [Value.type "Exception"], mro := [Value.ref 31, Value.type "Exception", Value.type "BaseException", Value.type "object"], ns := 30, qualname := Str.ofString "PSException", subclasses := [Value.ref 44] }, slots := #[some (Value.ref 22), none, some (Value.str (Str.ofString "PSException") 196), some (Value.str (Str.ofString "PSException") 204), some (Value.builtin "Exception.__new__"), some (Value.bool true)] }) ::
(nat_lit 32, { cls := Value.type "getset_descriptor", data := Data.fields #[Value.str (Str.ofString "__weakref__") 209, Value.ref 31, Value.builtin "ExceptionGroup.__weakref__", Value.none] }) ::
(nat_lit 35, { cls := Value.type "tuple", data := Data.seq #[Value.ref 31] }) ::
(nat_lit 42, { cls := Value.type "tuple", data := Data.seq #[] }) ::
(nat_lit 43, { cls := Value.type "dict", data := Data.dict #[⟨PyData.keyHash P (Str.ofString "__module__"),Value.str (Str.ofString "__module__") 225,Value.str (Str.ofString "pdfminer.pdfexceptions") 216⟩, ⟨PyData.keyHash P (Str.ofString "__firstlineno__"),Value.str (Str.ofString "__firstlineno__") 229,Value.int 8 228⟩, ⟨PyData.keyHash P (Str.ofString "__static_attributes__"),Value.str (Str.ofString "__static_attributes__") 230,Value.ref 42⟩, ⟨PyData.keyHash P (Str.ofString "__doc__"),Value.str (Str.ofString "__doc__") 231,Value.none⟩] 2 }) ::
(nat_lit 44, { cls := Value.type "type", data := Data.cls { name := Str.ofString "PDFException", bases := [Value.ref 31], mro := [Value.ref 44, Value.ref 31, Value.type "Exception", Value.type "BaseException", Value.type "object"], ns := 43, qualname := Str.ofString "PDFException", subclasses := [Value.ref 371] }, slots := #[some (Value.ref 35), none, some (Value.str (Str.ofString "PDFException") 218), some (Value.str (Str.ofString "PDFException") 226), some (Value.builtin "Exception.__new__"), some (Value.bool true)] }) ::
(nat_lit 47, { cls := Value.type "tuple", data := Data.seq #[] }) ::
(nat_lit 49, { cls := Value.type "tuple", data := Data.seq #[Value.str (Str.ofString "data") 239] }) ::
(nat_lit 50, { cls := Value.type "tuple", data := Data.seq #[] }) ::
(nat_lit 52, { cls := Value.type "code", data := Data.fields #[Value.str (Str.ofString "get_bytes") 236, Value.str (Str.ofString "get_bytes") 237, Value.str (Str.ofString "/claim/cut.py") 238, Value.int 11 0, Value.int 1 0, Value.int 0 0, Value.int 0 0, Value.int 35 0, Value.ref 47, Value.bool true, Value.int 181 0, Value.ref 48, Value.none, Value.ref 49, Value.ref 50, Value.ref 51, Value.int 240 0, Value.int 11 0, Value.str (Str.ofString "/claim/cut.py") 241] }) ::
(nat_lit 53, { cls := Value.type "function", data := Data.func { name := Str.ofString "get_bytes", qualname := Str.ofString "get_bytes", params := Aq_get_bytes, body := FuncBody.stmts Bq_get_bytes, scope := Cq_get_bytes, globals := 3, closure := [], defaults := Value.none, kwdefaults := Value.none, pyModule := Value.str (Str.ofString "pdfminer.ccitt") 234, code := Value.ref 52 } }) ::
(nat_lit 61, { cls := Value.type "tuple", data := Data.seq #[] }) ::
(nat_lit 63, { cls := Value.type "tuple", data := Data.seq #[Value.str (Str.ofString "self") 258] }) ::
(nat_lit 64, { cls := Value.type "tuple", data := Data.seq #[] }) ::
(nat_lit 66, { cls := Value.type "code", data := Data.fields #[Value.str (Str.ofString "__init__") 255, Value.str (Str.ofString "BitParser.__init__") 256, Value.str (Str.ofString "/claim/cut.py") 257, Value.int 15 0, Value.int 1 0, Value.int 0 0, Value.int 0 0, Value.int 3 0, Value.ref 61, Value.bool true, Value.int 181 0, Value.ref 62, Value.none, Value.ref 63, Value.ref 64, Value.ref 65, Value.int 259 0, Value.int 15 0, Value.str (Str.ofString "/claim/cut.py") 260] }) ::
(nat_lit 67, { cls := Value.type "function", data := Data.func { name := Str.ofString "__init__", qualname := Str.ofString "BitParser.__init__", params := Aq_BitParser___init__, body := FuncBody.stmts Bq_BitParser___init__, scope := Cq_BitParser___init__, globals := 3, closure := [], defaults := Value.none, kwdefaults := Value.none, pyModule := Value.str (Str.ofString "pdfminer.ccitt") 234, code := Value.ref 66 } }) ::
(nat_lit 68, { cls := Value.type "tuple", data := Data.seq #[] }) ::
(nat_lit 70, { cls := Value.type "tuple", data := Data.seq #[Value.str (Str.ofString "cls") 265, Value.str (Str.ofString "root") 266, Value.str (Str.ofString "v") 267, Value.str (Str.ofString "bits") 268] }) ::
(nat_lit 71, { cls := Value.type "tuple", data := Data.seq #[] }) ::
(nat_lit 73, { cls := Value.type "code", data := Data.fields #[Value.str (Str.ofString "add") 262, Value.str (Str.ofString "BitParser.add") 263, Value.str (Str.ofString "/claim/cut.py") 264, Value.int 18 0, Value.int 4 0, Value.int 0 0, Value.int 0 0, Value.int 3 0, Value.ref 68, Value.bool true, Value.int 181 0, Value.ref 69, Value.none, Value.ref 70, Value.ref 71, Value.ref 72, Value.int 269 0, Value.int 18 0, Value.str (Str.ofString "/claim/cut.py") 270] }) ::
(nat_lit 74, { cls := Value.type "function", data := Data.func { name := Str.ofString "add", qualname := Str.ofString "BitParser.add", params := Aq_BitParser_add, body := FuncBody.stmts Bq_BitParser_add, scope := Cq_BitParser_add, globals := 3, closure := [], defaults := Value.none, kwdefaults := Value.none, pyModule := Value.str (Str.ofString "pdfminer.ccitt") 234, annotations := some 77, code := Value.ref 73 } }) ::
(nat_lit 75, { cls := Value.type "dict", data := Data.dict #[⟨PyData.keyHash P (Str.ofString "__module__"),Value.str (Str.ofString "__module__") 272,Value.str (Str.ofString "pdfminer.ccitt") 234⟩, ⟨PyData.keyHash P (Str.ofString "__name__"),Value.str (Str.ofString "__name__") 275,Value.str (Str.ofString "add") 274⟩, ⟨PyData.keyHash P (Str.ofString "__qualname__"),Value.str (Str.ofString "__qualname__") 278,Value.str (Str.ofString "BitParser.add") 277⟩, ⟨PyData.keyHash P (Str.ofString "__doc__"),Value.str (Str.ofString "__doc__") 280,Value.none⟩, ⟨PyData.keyHash P (Str.ofString "__annotations__"),Value.str (Str.ofString "__annotations__") 282,Value.ref 77⟩] 5 }) ::
(nat_lit 76, { cls := Value.type "classmethod", dict := some 75, data := Data.fields #[Value.ref 74, Value.bool false] }) ::
(nat_lit 77, { cls := Value.type "dict", data := Data.dict #[] }) ::
(nat_lit 78, { cls := Value.type "tuple", data := Data.seq #[] }) ::
(nat_lit 80, { cls := Value.type "tuple", data := Data.seq #[Value.str (Str.ofString "self") 287, Value.str (Str.ofString "data") 288, Value.str (Str.ofString "byte") 289, Value.str (Str.ofString "m") 290] }) ::
(nat_lit 81, { cls := Value.type "tuple", data := Data.seq #[] }) ::
(nat_lit 83, { cls := Value.type "code", data := Data.fields #[Value.str (Str.ofString "feedbytes") 284, Value.str (Str.ofString "BitParser.feedbytes") 285, Value.str (Str.ofString "/claim/cut.py") 286, Value.int 22 0, Value.int 2 0, Value.int 0 0, Value.int 0 0, Value.int 3 0, Value.ref 78, Value.bool true, Value.int 181 0, Value.ref 79, Value.none, Value.ref 80, Value.ref 81, Value.ref 82, Value.int 291 0, Value.int 22 0, Value.str (Str.ofString "/claim/cut.py") 292] }) ::
(nat_lit 84, { cls := Value.type "function", data := Data.func { name := Str.ofString "feedbytes", qualname := Str.ofString "BitParser.feedbytes", params := Aq_BitParser_feedbytes, body := FuncBody.stmts Bq_BitParser_feedbytes, scope := Cq_BitParser_feedbytes, globals := 3, closure := [], defaults := Value.none, kwdefaults := Value.none, pyModule := Value.str (Str.ofString "pdfminer.ccitt") 234, code := Value.ref 83 } }) ::
(nat_lit 85, { cls := Value.type "tuple", data := Data.seq #[] }) ::
(nat_lit 87, { cls := Value.type "tuple", data := Data.seq #[Value.str (Str.ofString "self") 297, Value.str (Str.ofString "x") 298, Value.str (Str.ofString "v") 299] }) ::
(nat_lit 88, { cls := Value.type "tuple", data := Data.seq #[] }) ::
(nat_lit 90, { cls := Value.type "code", data := Data.fields #[Value.str (Str.ofString "_parse_bit") 294, Value.str (Str.ofString "BitParser._parse_bit") 295, Value.str (Str.ofString "/claim/cut.py") 296, Value.int 27 0, Value.int 2 0, Value.int 0 0, Value.int 0 0, Value.int 3 0, Value.ref 85, Value.bool true, Value.int 181 0, Value.ref 86, Value.none, Value.ref 87, Value.ref 88, Value.ref 89, Value.int 300 0, Value.int 27 0, Value.str (Str.ofString "/claim/cut.py") 301] }) ::
(nat_lit 91, { cls := Value.type "function", data := Data.func { name := Str.ofString "_parse_bit", qualname := Str.ofString "BitParser._parse_bit", params := Aq_BitParser__parse_bit, body := FuncBody.stmts Bq_BitParser__parse_bit, scope := Cq_BitParser__parse_bit, globals := 3, closure := [], defaults := Value.none, kwdefaults := Value.none, pyModule := Value.str (Str.ofString "pdfminer.ccitt") 234, code := Value.ref 90 } }) ::
(nat_lit 92, { cls := Value.type "tuple", data := Data.seq #[Value.str (Str.ofString "_pos") 303, Value.str (Str.ofString "_state") 304] }) ::
(nat_lit 93, { cls := Value.type "dict", data := Data.dict #[⟨PyData.keyHash P (Str.ofString "__module__"),Value.str (Str.ofString "__module__") 250,Value.str (Str.ofString "pdfminer.ccitt") 234⟩, ⟨PyData.keyHash P (Str.ofString "__firstlineno__"),Value.str (Str.ofString "__firstlineno__") 254,Value.int 13 253⟩, ⟨PyData.keyHash P (Str.ofString "__init__"),Value.str (Str.ofString "__init__") 261,Value.ref 67⟩, ⟨PyData.keyHash P (Str.ofString "add"),Value.str (Str.ofString "add") 283,Value.ref 76⟩, ⟨PyData.keyHash P (Str.ofString "feedbytes"),Value.str (Str.ofString "feedbytes") 293,Value.ref 84⟩, ⟨PyData.keyHash P (Str.ofString "_parse_bit"),Value.str (Str.ofString "_parse_bit") 302,Value.ref 91⟩, ⟨PyData.keyHash P (Str.ofString "__static_attributes__"),Value.str (Str.ofString "__static_attributes__") 305,Value.ref 92⟩, ⟨PyData.keyHash P (Str.ofString "__dict__"),Value.str (Str.ofString "__dict__") 307,Value.ref 95⟩, ⟨PyData.keyHash P (Str.ofString "__weakref__"),Value.str (Str.ofString "__weakref__") 309,Value.ref 96⟩, ⟨PyData.keyHash P (Str.ofString "__doc__"),Value.str (Str.ofString "__doc__") 310,Value.none⟩] 4 }) ::
(nat_lit 94, { cls := Value.type "type", data := Data.cls { name := Str.ofString "BitParser", bases := [Value.type "object"], mro := [Value.ref 94, Value.type "object"], ns := 93, qualname := Str.ofString "BitParser", subclasses := [Value.ref 525] }, slots := #[none, none, some (Value.str (Str.ofString "BitParser") 243), some (Value.str (Str.ofString "BitParser") 251), some (Value.builtin "object.__new__"), some (Value.bool true)] }) ::
(nat_lit 95, { cls := Value.type "getset_descriptor", data := Data.fields #[Value.str (Str.ofString "__dict__") 306, Value.ref 94, Value.builtin "function.__dict__", Value.builtin "function.__dict__#set"] }) ::
(nat_lit 96, { cls := Value.type "getset_descriptor", data := Data.fields #[Value.str (Str.ofString "__weakref__") 308, Value.ref 94, Value.builtin "ExceptionGroup.__weakref__", Value.none] }) ::
(nat_lit 99, { cls := Value.type "tuple", data := Data.seq #[Value.ref 94] }) ::
(nat_lit 106, { cls := Value.type "list", data := Data.seq #[Value.none, Value.str (Str.ofString "e") 325] }) ::
(nat_lit 107, { cls := Value.type "list", data := Data.seq #[Value.ref 106, Value.none] }) ::
(nat_lit 108, { cls := Value.type "list", data := Data.seq #[Value.ref 107, Value.none] }) ::
(nat_lit 109, { cls := Value.type "list", data := Data.seq #[Value.ref 108, Value.none] }) ::
(nat_lit 110, { cls := Value.type "list", data := Data.seq #[Value.ref 109, Value.none] }) ::
(nat_lit 111, { cls := Value.type "list", data := Data.seq #[Value.ref 110, Value.none] }) ::
(nat_lit 112, { cls := Value.type "list", data := Data.seq #[Value.ref 111, Value.none] }) ::
(nat_lit 113, { cls := Value.type "list", data := Data.seq #[Value.ref 112, Value.none] }) ::
(nat_lit 114, { cls := Value.type "list", data := Data.seq #[Value.ref 113, Value.none] }) ::
(nat_lit 115, { cls := Value.type "list", data := Data.seq #[Value.ref 114, Value.none] }) ::
(nat_lit 116, { cls := Value.type "list", data := Data.seq #[Value.ref 115, Value.none] }) ::
(nat_lit 117, { cls := Value.type "list", data := Data.seq #[Value.ref 116, Value.none] }) ::
(nat_lit 118, { cls := Value.type "list", data := Data.seq #[Value.none, Value.ref 117] }) ::
(nat_lit 119, { cls := Value.type "list", data := Data.seq #[Value.ref 118, Value.none] }) ::
(nat_lit 120, { cls := Value.type "list", data := Data.seq #[Value.ref 119, Value.none] }) ::
(nat_lit 121, { cls := Value.type "list", data := Data.seq #[Value.ref 120, Value.none] }) ::
(nat_lit 122, { cls := Value.type "list", data := Data.seq #[Value.ref 121, Value.none] }) ::
(nat_lit 123, { cls := Value.type "list", data := Data.seq #[Value.str (Str.ofString "x1") 326, Value.str (Str.ofString "x2") 327] }) ::
(nat_lit 124, { cls := Value.type "list", data := Data.seq #[Value.str (Str.ofString "x3") 328, Value.str (Str.ofString "x4") 329] }) ::
(nat_lit 125, { cls := Value.type "list", data := Data.seq #[Value.ref 123, Value.ref 124] }) ::
(nat_lit 126, { cls := Value.type "list", data := Data.seq #[Value.str (Str.ofString "x5") 330, Value.str (Str.ofString "x6") 331] }) ::
(nat_lit 127, { cls := Value.type "list", data := Data.seq #[Value.str (Str.ofString "x7") 332, Value.str (Str.ofString "u") 333] }) ::
(nat_lit 128, { cls := Value.type "list", data := Data.seq #[Value.ref 126, Value.ref 127] }) ::
(nat_lit 129, { cls := Value.type "list", data := Data.seq #[Value.ref 125, Value.ref 128] }) ::
(nat_lit 130, { cls := Value.type "list", data := Data.seq #[Value.ref 122, Value.ref 129] }) ::
(nat_lit 131, { cls := Value.type "list", data := Data.seq #[Value.int (-3) 335, Value.int 3 336] }) ::
(nat_lit 132, { cls := Value.type "list", data := Data.seq #[Value.ref 130, Value.ref 131] }) ::
(nat_lit 133, { cls := Value.type "list", data := Data.seq #[Value.int (-2) 338, Value.int 2 339] }) ::
(nat_lit 134, { cls := Value.type "list", data := Data.seq #[Value.ref 132, Value.ref 133] }) ::
(nat_lit 135, { cls := Value.type "list", data := Data.seq #[Value.ref 134, Value.str (Str.ofString "p") 340] }) ::
(nat_lit 136, { cls := Value.type "list", data := Data.seq #[Value.ref 135, Value.str (Str.ofString "h") 341] }) ::
(nat_lit 137, { cls := Value.type "list", data := Data.seq #[Value.int (-1) 343, Value.int 1 344] }) ::
(nat_lit 138, { cls := Value.type "list", data := Data.seq #[Value.ref 136, Value.ref 137] }) ::
(nat_lit 139, { cls := Value.type "list", data := Data.seq #[Value.ref 138, Value.int 0 345] }) ::
(nat_lit 140, { cls := Value.type "list", data := Data.seq #[Value.int 1984 348, Value.int 2048 349] }) ::
(nat_lit 141, { cls := Value.type "list", data := Data.seq #[Value.int 1792 347, Value.ref 140] }) ::
(nat_lit 142, { cls := Value.type "list", data := Data.seq #[Value.int 2112 350, Value.int 2176 351] }) ::
(nat_lit 143, { cls := Value.type "list", data := Data.seq #[Value.int 2240 352, Value.int 2304 353] }) ::
(nat_lit 144, { cls := Value.type "list", data := Data.seq #[Value.ref 142, Value.ref 143] }) ::
(nat_lit 145, { cls := Value.type "list", data := Data.seq #[Value.ref 141, Value.ref 144] }) ::
(nat_lit 146, { cls := Value.type "list", data := Data.seq #[Value.int 1856 354, Value.int 1920 355] }) ::
(nat_lit 147, { cls := Value.type "list", data := Data.seq #[Value.int 2368 356, Value.int 2432 357] }) ::
(nat_lit 148, { cls := Value.type "list", data := Data.seq #[Value.int 2496 358, Value.int 2560 359] }) ::
(nat_lit 149, { cls := Value.type "list", data := Data.seq #[Value.ref 147, Value.ref 148] }) ::
(nat_lit 150, { cls := Value.type "list", data := Data.seq #[Value.ref 146, Value.ref 149] }) ::
(nat_lit 151, { cls := Value.type "list", data := Data.seq #[Value.ref 145, Value.ref 150] }) ::
(nat_lit 152, { cls := Value.type "list", data := Data.seq #[Value.none, Value.ref 151] }) ::
(nat_lit 153, { cls := Value.type "list", data := Data.seq #[Value.int 29 360, Value.int 30 361] }) ::
(nat_lit 154, { cls := Value.type "list", data := Data.seq #[Value.ref 152, Value.ref 153] }) ::
(nat_lit 155, { cls := Value.type "list", data := Data.seq #[Value.int 45 362, Value.int 46 363] }) ::
(nat_lit 156, { cls := Value.type "list", data := Data.seq #[Value.ref 155, Value.int 22 364] }) ::
(nat_lit 157, { cls := Value.type "list", data := Data.seq #[Value.ref 154, Value.ref 156] }) ::
(nat_lit 158, { cls := Value.type "list", data := Data.seq #[Value.int 47 366, Value.int 48 367] }) ::
(nat_lit 159, { cls := Value.type "list", data := Data.seq #[Value.int 23 365, Value.ref 158] }) ::
(nat_lit 160, { cls := Value.type "list", data := Data.seq #[Value.ref 159, Value.int 13 368] }) ::
(nat_lit 161, { cls := Value.type "list", data := Data.seq #[Value.ref 157, Value.ref 160] }) ::
(nat_lit 162, { cls := Value.type "list", data := Data.seq #[Value.int 33 370, Value.int 34 371] }) ::
(nat_lit 163, { cls := Value.type "list", data := Data.seq #[Value.int 20 369, Value.ref 162] }) ::
(nat_lit 164, { cls := Value.type "list", data := Data.seq #[Value.int 35 372, Value.int 36 373] }) ::
(nat_lit 165, { cls := Value.type "list", data := Data.seq #[Value.int 37 374, Value.int 38 375] }) ::
(nat_lit 166, { cls := Value.type "list", data := Data.seq #[Value.ref 164, Value.ref 165] }) ::
(nat_lit 167, { cls := Value.type "list", data := Data.seq #[Value.ref 163, Value.ref 166] }) ::
(nat_lit 168, { cls := Value.type "list", data := Data.seq #[Value.int 31 377, Value.int 32 378] }) ::
(nat_lit 169, { cls := Value.type "list", data := Data.seq #[Value.int 19 376, Value.ref 168] }) ::
(nat_lit 170, { cls := Value.type "list", data := Data.seq #[Value.ref 169, Value.int 1 379] }) ::
(nat_lit 171, { cls := Value.type "list", data := Data.seq #[Value.ref 167, Value.ref 170] }) ::
(nat_lit 172, { cls := Value.type "list", data := Data.seq #[Value.ref 161, Value.ref 171] }) ::
(nat_lit 173, { cls := Value.type "list", data := Data.seq #[Value.int 53 381, Value.int 54 382] }) ::
(nat_lit 174, { cls := Value.type "list", data := Data.seq #[Value.ref 173, Value.int 26 383] }) ::
(nat_lit 175, { cls := Value.type "list", data := Data.seq #[Value.int 12 380, Value.ref 174] }) ::
(nat_lit 176, { cls := Value.type "list", data := Data.seq #[Value.int 39 384, Value.int 40 385] }) ::
(nat_lit 177, { cls := Value.type "list", data := Data.seq #[Value.int 41 386, Value.int 42 387] }) ::
(nat_lit 178, { cls := Value.type "list", data := Data.seq #[Value.ref 176, Value.ref 177] }) ::
(nat_lit 179, { cls := Value.type "list", data := Data.seq #[Value.int 43 388, Value.int 44 389] }) ::
(nat_lit 180, { cls := Value.type "list", data := Data.seq #[Value.ref 179, Value.int 21 390] }) ::
(nat_lit 181, { cls := Value.type "list", data := Data.seq #[Value.ref 178, Value.ref 180] }) ::
(nat_lit 182, { cls := Value.type "list", data := Data.seq #[Value.ref 175, Value.ref 181] }) ::
(nat_lit 183, { cls := Value.type "list", data := Data.seq #[Value.int 61 392, Value.int 62 393] }) ::
(nat_lit 184, { cls := Value.type "list", data := Data.seq #[Value.int 28 391, Value.ref 183] }) ::
(nat_lit 185, { cls := Value.type "list", data := Data.seq #[Value.int 63 394, Value.int 0 395] }) ::
(nat_lit 186, { cls := Value.type "list", data := Data.seq #[Value.int 320 396, Value.int 384 397] }) ::
(nat_lit 187, { cls := Value.type "list", data := Data.seq #[Value.ref 185, Value.ref 186] }) ::
(nat_lit 188, { cls := Value.type "list", data := Data.seq #[Value.ref 184, Value.ref 187] }) ::
(nat_lit 189, { cls := Value.type "list", data := Data.seq #[Value.ref 188, Value.int 10 398] }) ::
(nat_lit 190, { cls := Value.type "list", data := Data.seq #[Value.ref 182, Value.ref 189] }) ::
(nat_lit 191, { cls := Value.type "list", data := Data.seq #[Value.ref 172, Value.ref 190] }) ::
(nat_lit 192, { cls := Value.type "list", data := Data.seq #[Value.int 59 401, Value.int 60 402] }) ::
(nat_lit 193, { cls := Value.type "list", data := Data.seq #[Value.int 27 400, Value.ref 192] }) ::
(nat_lit 194, { cls := Value.type "list", data := Data.seq #[Value.int 1472 403, Value.int 1536 404] }) ::
(nat_lit 195, { cls := Value.type "list", data := Data.seq #[Value.int 1600 405, Value.int 1728 406] }) ::
(nat_lit 196, { cls := Value.type "list", data := Data.seq #[Value.ref 194, Value.ref 195] }) ::
(nat_lit 197, { cls := Value.type "list", data := Data.seq #[Value.ref 196, Value.int 18 407] }) ::
(nat_lit 198, { cls := Value.type "list", data := Data.seq #[Value.ref 193, Value.ref 197] }) ::
(nat_lit 199, { cls := Value.type "list", data := Data.seq #[Value.int 11 399, Value.ref 198] }) ::
(nat_lit 200, { cls := Value.type "list", data := Data.seq #[Value.int 49 409, Value.int 50 410] }) ::
(nat_lit 201, { cls := Value.type "list", data := Data.seq #[Value.int 24 408, Value.ref 200] }) ::
(nat_lit 202, { cls := Value.type "list", data := Data.seq #[Value.int 51 411, Value.int 52 412] }) ::
(nat_lit 203, { cls := Value.type "list", data := Data.seq #[Value.ref 202, Value.int 25 413] }) ::
(nat_lit 204, { cls := Value.type "list", data := Data.seq #[Value.ref 201, Value.ref 203] }) ::
(nat_lit 205, { cls := Value.type "list", data := Data.seq #[Value.int 55 414, Value.int 56 415] }) ::
(nat_lit 206, { cls := Value.type "list", data := Data.seq #[Value.int 57 416, Value.int 58 417] }) ::
(nat_lit 207, { cls := Value.type "list", data := Data.seq #[Value.ref 205, Value.ref 206] }) ::
(nat_lit 208, { cls := Value.type "list", data := Data.seq #[Value.ref 207, Value.int 192 418] }) ::
(nat_lit 209, { cls := Value.type "list", data := Data.seq #[Value.ref 204, Value.ref 208] }) ::
(nat_lit 210, { cls := Value.type "list", data := Data.seq #[Value.ref 199, Value.ref 209] }) ::
(nat_lit 211, { cls := Value.type "list", data := Data.seq #[Value.int 448 420, Value.int 512 421] }) ::
(nat_lit 212, { cls := Value.type "list", data := Data.seq #[Value.int 704 422, Value.int 768 423] }) ::
(nat_lit 213, { cls := Value.type "list", data := Data.seq #[Value.ref 212, Value.int 640 424] }) ::
(nat_lit 214, { cls := Value.type "list", data := Data.seq #[Value.ref 211, Value.ref 213] }) ::
(nat_lit 215, { cls := Value.type "list", data := Data.seq #[Value.int 1664 419, Value.ref 214] }) ::
(nat_lit 216, { cls := Value.type "list", data := Data.seq #[Value.int 832 426, Value.int 896 427] }) ::
(nat_lit 217, { cls := Value.type "list", data := Data.seq #[Value.int 576 425, Value.ref 216] }) ::
(nat_lit 218, { cls := Value.type "list", data := Data.seq #[Value.int 960 428, Value.int 1024 429] }) ::
(nat_lit 219, { cls := Value.type "list", data := Data.seq #[Value.int 1088 430, Value.int 1152 431] }) ::
(nat_lit 220, { cls := Value.type "list", data := Data.seq #[Value.ref 218, Value.ref 219] }) ::
(nat_lit 221, { cls := Value.type "list", data := Data.seq #[Value.ref 217, Value.ref 220] }) ::
(nat_lit 222, { cls := Value.type "list", data := Data.seq #[Value.int 1216 432, Value.int 1280 433] }) ::
(nat_lit 223, { cls := Value.type "list", data := Data.seq #[Value.int 1344 434, Value.int 1408 435] }) ::
(nat_lit 224, { cls := Value.type "list", data := Data.seq #[Value.ref 222, Value.ref 223] }) ::
(nat_lit 225, { cls := Value.type "list", data := Data.seq #[Value.ref 224, Value.int 256 436] }) ::
(nat_lit 226, { cls := Value.type "list", data := Data.seq #[Value.ref 221, Value.ref 225] }) ::
(nat_lit 227, { cls := Value.type "list", data := Data.seq #[Value.ref 215, Value.ref 226] }) ::
(nat_lit 228, { cls := Value.type "list", data := Data.seq #[Value.ref 227, Value.int 2 437] }) ::
(nat_lit 229, { cls := Value.type "list", data := Data.seq #[Value.ref 210, Value.ref 228] }) ::
(nat_lit 230, { cls := Value.type "list", data := Data.seq #[Value.ref 191, Value.ref 229] }) ::
(nat_lit 231, { cls := Value.type "list", data := Data.seq #[Value.int 128 439, Value.int 8 440] }) ::
(nat_lit 232, { cls := Value.type "list", data := Data.seq #[Value.int 3 438, Value.ref 231] }) ::
(nat_lit 233, { cls := Value.type "list", data := Data.seq #[Value.int 16 442, Value.int 17 443] }) ::
(nat_lit 234, { cls := Value.type "list", data := Data.seq #[Value.int 9 441, Value.ref 233] }) ::
(nat_lit 235, { cls := Value.type "list", data := Data.seq #[Value.ref 234, Value.int 4 444] }) ::
(nat_lit 236, { cls := Value.type "list", data := Data.seq #[Value.ref 232, Value.ref 235] }) ::
(nat_lit 237, { cls := Value.type "list", data := Data.seq #[Value.int 14 446, Value.int 15 447] }) ::
(nat_lit 238, { cls := Value.type "list", data := Data.seq #[Value.ref 237, Value.int 64 448] }) ::
(nat_lit 239, { cls := Value.type "list", data := Data.seq #[Value.int 5 445, Value.ref 238] }) ::
(nat_lit 240, { cls := Value.type "list", data := Data.seq #[Value.int 6 449, Value.int 7 450] }) ::
(nat_lit 241, { cls := Value.type "list", data := Data.seq #[Value.ref 239, Value.ref 240] }) ::
(nat_lit 242, { cls := Value.type "list", data := Data.seq #[Value.ref 236, Value.ref 241] }) ::
(nat_lit 243, { cls := Value.type "list", data := Data.seq #[Value.ref 230, Value.ref 242] }) ::
(nat_lit 244, { cls := Value.type "list", data := Data.seq #[Value.int 1984 453, Value.int 2048 454] }) ::
(nat_lit 245, { cls := Value.type "list", data := Data.seq #[Value.int 1792 452, Value.ref 244] }) ::
(nat_lit 246, { cls := Value.type "list", data := Data.seq #[Value.int 2112 455, Value.int 2176 456] }) ::
(nat_lit 247, { cls := Value.type "list", data := Data.seq #[Value.int 2240 457, Value.int 2304 458] }) ::
(nat_lit 248, { cls := Value.type "list", data := Data.seq #[Value.ref 246, Value.ref 247] }) ::
(nat_lit 249, { cls := Value.type "list", data := Data.seq #[Value.ref 245, Value.ref 248] }) ::
(nat_lit 250, { cls := Value.type "list", data := Data.seq #[Value.int 1856 459, Value.int 1920 460] }) ::
(nat_lit 251, { cls := Value.type "list", data := Data.seq #[Value.int 2368 461, Value.int 2432 462] }) ::
(nat_lit 252, { cls := Value.type "list", data := Data.seq #[Value.int 2496 463, Value.int 2560 464] }) ::
(nat_lit 253, { cls := Value.type "list", data := Data.seq #[Value.ref 251, Value.ref 252] }) ::
(nat_lit 254, { cls := Value.type "list", data := Data.seq #[Value.ref 250, Value.ref 253] }) ::
(nat_lit 255, { cls := Value.type "list", data := Data.seq #[Value.ref 249, Value.ref 254] }) ::
(nat_lit 256, { cls := Value.type "list", data := Data.seq #[Value.none, Value.ref 255] }) ::
(nat_lit 257, { cls := Value.type "list", data := Data.seq #[Value.int 640 467, Value.int 704 468] }) ::
(nat_lit 258, { cls := Value.type "list", data := Data.seq #[Value.int 52 466, Value.ref 257] }) ::
(nat_lit 259, { cls := Value.type "list", data := Data.seq #[Value.int 768 469, Value.int 832 470] }) ::
(nat_lit 260, { cls := Value.type "list", data := Data.seq #[Value.ref 259, Value.int 55 471] }) ::
(nat_lit 261, { cls := Value.type "list", data := Data.seq #[Value.ref 258, Value.ref 260] }) ::
(nat_lit 262, { cls := Value.type "list", data := Data.seq #[Value.int 18 465, Value.ref 261] }) ::
(nat_lit 263, { cls := Value.type "list", data := Data.seq #[Value.int 1280 473, Value.int 1344 474] }) ::
(nat_lit 264, { cls := Value.type "list", data := Data.seq #[Value.int 56 472, Value.ref 263] }) ::
(nat_lit 265, { cls := Value.type "list", data := Data.seq #[Value.int 1408 475, Value.int 1472 476] }) ::
(nat_lit 266, { cls := Value.type "list", data := Data.seq #[Value.ref 265, Value.int 59 477] }) ::
(nat_lit 267, { cls := Value.type "list", data := Data.seq #[Value.ref 264, Value.ref 266] }) ::
(nat_lit 268, { cls := Value.type "list", data := Data.seq #[Value.int 1536 479, Value.int 1600 480] }) ::
(nat_lit 269, { cls := Value.type "list", data := Data.seq #[Value.int 60 478, Value.ref 268] }) ::
(nat_lit 270, { cls := Value.type "list", data := Data.seq #[Value.ref 269, Value.int 24 481] }) ::
(nat_lit 271, { cls := Value.type "list", data := Data.seq #[Value.ref 267, Value.ref 270] }) ::
(nat_lit 272, { cls := Value.type "list", data := Data.seq #[Value.ref 262, Value.ref 271] }) ::
(nat_lit 273, { cls := Value.type "list", data := Data.seq #[Value.int 1664 483, Value.int 1728 484] }) ::
(nat_lit 274, { cls := Value.type "list", data := Data.seq #[Value.ref 273, Value.int 320 485] }) ::
(nat_lit 275, { cls := Value.type "list", data := Data.seq #[Value.int 25 482, Value.ref 274] }) ::
(nat_lit 276, { cls := Value.type "list", data := Data.seq #[Value.int 384 486, Value.int 448 487] }) ::
(nat_lit 277, { cls := Value.type "list", data := Data.seq #[Value.int 512 488, Value.int 576 489] }) ::
(nat_lit 278, { cls := Value.type "list", data := Data.seq #[Value.ref 277, Value.int 53 490] }) ::
(nat_lit 279, { cls := Value.type "list", data := Data.seq #[Value.ref 276, Value.ref 278] }) ::
(nat_lit 280, { cls := Value.type "list", data := Data.seq #[Value.ref 275, Value.ref 279] }) ::
(nat_lit 281, { cls := Value.type "list", data := Data.seq #[Value.int 896 492, Value.int 960 493] }) ::
(nat_lit 282, { cls := Value.type "list", data := Data.seq #[Value.int 54 491, Value.ref 281] }) ::
(nat_lit 283, { cls := Value.type "list", data := Data.seq #[Value.int 1024 494, Value.int 1088 495] }) ::
(nat_lit 284, { cls := Value.type "list", data := Data.seq #[Value.int 1152 496, Value.int 1216 497] }) ::
(nat_lit 285, { cls := Value.type "list", data := Data.seq #[Value.ref 283, Value.ref 284] }) ::
(nat_lit 286, { cls := Value.type "list", data := Data.seq #[Value.ref 282, Value.ref 285] }) ::
(nat_lit 287, { cls := Value.type "list", data := Data.seq #[Value.ref 286, Value.int 64 498] }) ::
(nat_lit 288, { cls := Value.type "list", data := Data.seq #[Value.ref 280, Value.ref 287] }) ::
(nat_lit 289, { cls := Value.type "list", data := Data.seq #[Value.ref 272, Value.ref 288] }) ::
(nat_lit 290, { cls := Value.type "list", data := Data.seq #[Value.ref 256, Value.ref 289] }) ::
(nat_lit 291, { cls := Value.type "list", data := Data.seq #[Value.int 50 501, Value.int 51 502] }) ::
(nat_lit 292, { cls := Value.type "list", data := Data.seq #[Value.int 23 500, Value.ref 291] }) ::
(nat_lit 293, { cls := Value.type "list", data := Data.seq #[Value.int 44 503, Value.int 45 504] }) ::
(nat_lit 294, { cls := Value.type "list", data := Data.seq #[Value.int 46 505, Value.int 47 506] }) ::
(nat_lit 295, { cls := Value.type "list", data := Data.seq #[Value.ref 293, Value.ref 294] }) ::
(nat_lit 296, { cls := Value.type "list", data := Data.seq #[Value.ref 292, Value.ref 295] }) ::
(nat_lit 297, { cls := Value.type "list", data := Data.seq #[Value.int 57 507, Value.int 58 508] }) ::
(nat_lit 298, { cls := Value.type "list", data := Data.seq #[Value.int 61 509, Value.int 256 510] }) ::
(nat_lit 299, { cls := Value.type "list", data := Data.seq #[Value.ref 297, Value.ref 298] }) ::
(nat_lit 300, { cls := Value.type "list", data := Data.seq #[Value.ref 299, Value.int 16 511] }) ::
(nat_lit 301, { cls := Value.type "list", data := Data.seq #[Value.ref 296, Value.ref 300] }) ::
(nat_lit 302, { cls := Value.type "list", data := Data.seq #[Value.int 13 499, Value.ref 301] }) ::
(nat_lit 303, { cls := Value.type "list", data := Data.seq #[Value.int 48 513, Value.int 49 514] }) ::
(nat_lit 304, { cls := Value.type "list", data := Data.seq #[Value.int 62 515, Value.int 63 516] }) ::
(nat_lit 305, { cls := Value.type "list", data := Data.seq #[Value.ref 303, Value.ref 304] }) ::
(nat_lit 306, { cls := Value.type "list", data := Data.seq #[Value.int 17 512, Value.ref 305] }) ::
(nat_lit 307, { cls := Value.type "list", data := Data.seq #[Value.int 30 517, Value.int 31 518] }) ::
(nat_lit 308, { cls := Value.type "list", data := Data.seq #[Value.int 32 519, Value.int 33 520] }) ::
(nat_lit 309, { cls := Value.type "list", data := Data.seq #[Value.ref 307, Value.ref 308] }) ::
(nat_lit 310, { cls := Value.type "list", data := Data.seq #[Value.int 40 521, Value.int 41 522] }) ::
(nat_lit 311, { cls := Value.type "list", data := Data.seq #[Value.ref 310, Value.int 22 523] }) ::
(nat_lit 312, { cls := Value.type "list", data := Data.seq #[Value.ref 309, Value.ref 311] }) ::
(nat_lit 313, { cls := Value.type "list", data := Data.seq #[Value.ref 306, Value.ref 312] }) ::
(nat_lit 314, { cls := Value.type "list", data := Data.seq #[Value.ref 313, Value.int 14 524] }) ::
(nat_lit 315, { cls := Value.type "list", data := Data.seq #[Value.ref 302, Value.ref 314] }) ::
(nat_lit 316, { cls := Value.type "list", data := Data.seq #[Value.ref 290, Value.ref 315] }) ::
(nat_lit 317, { cls := Value.type "list", data := Data.seq #[Value.int 10 525, Value.int 11 526] }) ::
(nat_lit 318, { cls := Value.type "list", data := Data.seq #[Value.int 128 528, Value.int 192 529] }) ::
(nat_lit 319, { cls := Value.type "list", data := Data.seq #[Value.int 26 530, Value.int 27 531] }) ::
(nat_lit 320, { cls := Value.type "list", data := Data.seq #[Value.ref 318, Value.ref 319] }) ::
(nat_lit 321, { cls := Value.type "list", data := Data.seq #[Value.int 28 532, Value.int 29 533] }) ::
(nat_lit 322, { cls := Value.type "list", data := Data.seq #[Value.ref 321, Value.int 19 534] }) ::
(nat_lit 323, { cls := Value.type "list", data := Data.seq #[Value.ref 320, Value.ref 322] }) ::
(nat_lit 324, { cls := Value.type "list", data := Data.seq #[Value.int 15 527, Value.ref 323] }) ::
(nat_lit 325, { cls := Value.type "list", data := Data.seq #[Value.int 34 536, Value.int 35 537] }) ::
(nat_lit 326, { cls := Value.type "list", data := Data.seq #[Value.int 20 535, Value.ref 325] }) ::
(nat_lit 327, { cls := Value.type "list", data := Data.seq #[Value.int 36 538, Value.int 37 539] }) ::
(nat_lit 328, { cls := Value.type "list", data := Data.seq #[Value.int 38 540, Value.int 39 541] }) ::
(nat_lit 329, { cls := Value.type "list", data := Data.seq #[Value.ref 327, Value.ref 328] }) ::
(nat_lit 330, { cls := Value.type "list", data := Data.seq #[Value.ref 326, Value.ref 329] }) ::
(nat_lit 331, { cls := Value.type "list", data := Data.seq #[Value.int 42 543, Value.int 43 544] }) ::
(nat_lit 332, { cls := Value.type "list", data := Data.seq #[Value.int 21 542, Value.ref 331] }) ::
(nat_lit 333, { cls := Value.type "list", data := Data.seq #[Value.ref 332, Value.int 0 545] }) ::
(nat_lit 334, { cls := Value.type "list", data := Data.seq #[Value.ref 330, Value.ref 333] }) ::
(nat_lit 335, { cls := Value.type "list", data := Data.seq #[Value.ref 324, Value.ref 334] }) ::
(nat_lit 336, { cls := Value.type "list", data := Data.seq #[Value.ref 335, Value.int 12 546] }) ::
(nat_lit 337, { cls := Value.type "list", data := Data.seq #[Value.ref 317, Value.ref 336] }) ::
(nat_lit 338, { cls := Value.type "list", data := Data.seq #[Value.ref 316, Value.ref 337] }) ::
(nat_lit 339, { cls := Value.type "list", data := Data.seq #[Value.int 9 547, Value.int 8 548] }) ::
(nat_lit 340, { cls := Value.type "list", data := Data.seq #[Value.ref 339, Value.int 7 549] }) ::
(nat_lit 341, { cls := Value.type "list", data := Data.seq #[Value.ref 338, Value.ref 340] }) ::
(nat_lit 342, { cls := Value.type "list", data := Data.seq #[Value.int 6 550, Value.int 5 551] }) ::
(nat_lit 343, { cls := Value.type "list", data := Data.seq #[Value.ref 341, Value.ref 342] }) ::
(nat_lit 344, { cls := Value.type "list", data := Data.seq #[Value.int 1 552, Value.int 4 553] }) ::
(nat_lit 345, { cls := Value.type "list", data := Data.seq #[Value.ref 343, Value.ref 344] }) ::
(nat_lit 346, { cls := Value.type "list", data := Data.seq #[Value.int 3 554, Value.int 2 555] }) ::
(nat_lit 347, { cls := Value.type "list", data := Data.seq #[Value.ref 345, Value.ref 346] }) ::
(nat_lit 348, { cls := Value.type "list", data := Data.seq #[Value.str (Str.ofString "T10000") 557, Value.str (Str.ofString "T00000") 558] }) ::
(nat_lit 349, { cls := Value.type "list", data := Data.seq #[Value.none, Value.ref 348] }) ::
(nat_lit 350, { cls := Value.type "list", data := Data.seq #[Value.str (Str.ofString "T1000") 559, Value.str (Str.ofString "T0000") 560] }) ::
(nat_lit 351, { cls := Value.type "list", data := Data.seq #[Value.ref 349, Value.ref 350] }) ::
(nat_lit 352, { cls := Value.type "list", data := Data.seq #[Value.str (Str.ofString "T100") 561, Value.str (Str.ofString "T000") 562] }) ::
(nat_lit 353, { cls := Value.type "list", data := Data.seq #[Value.ref 351, Value.ref 352] }) ::
(nat_lit 354, { cls := Value.type "list", data := Data.seq #[Value.str (Str.ofString "T10") 563, Value.str (Str.ofString "T00") 564] }) ::
(nat_lit 355, { cls := Value.type "list", data := Data.seq #[Value.ref 353, Value.ref 354] }) ::
(nat_lit 356, { cls := Value.type "list", data := Data.seq #[Value.ref 355, Value.str (Str.ofString "00000") 565] }) ::
(nat_lit 357, { cls := Value.type "list", data := Data.seq #[Value.ref 356, Value.str (Str.ofString "00001") 566] }) ::
(nat_lit 358, { cls := Value.type "list", data := Data.seq #[Value.ref 357, Value.str (Str.ofString "0001") 567] }) ::
(nat_lit 359, { cls := Value.type "list", data := Data.seq #[Value.ref 358, Value.str (Str.ofString "001") 568] }) ::
(nat_lit 360, { cls := Value.type "list", data := Data.seq #[Value.ref 359, Value.str (Str.ofString "01") 569] }) ::
(nat_lit 361, { cls := Value.type "list", data := Data.seq #[Value.ref 360, Value.str (Str.ofString "1") 570] }) ::
(nat_lit 362, { cls := Value.type "tuple", data := Data.seq #[Value.ref 44] }) ::
(nat_lit 369, { cls := Value.type "tuple", data := Data.seq #[] }) ::
(nat_lit 370, { cls := Value.type "dict", data := Data.dict #[⟨PyData.keyHash P (Str.ofString "__module__"),Value.str (Str.ofString "__module__") 579,Value.str (Str.ofString "pdfminer.ccitt") 234⟩, ⟨PyData.keyHash P (Str.ofString "__firstlineno__"),Value.str (Str.ofString "__firstlineno__") 583,Value.int 41 582⟩, ⟨PyData.keyHash P (Str.ofString "__static_attributes__"),Value.str (Str.ofString "__static_attributes__") 584,Value.ref 369⟩, ⟨PyData.keyHash P (Str.ofString "__doc__"),Value.str (Str.ofString "__doc__") 585,Value.none⟩] 2 }) ::
(nat_lit 371, { cls := Value.type "type", data := Data.cls { name := Str.ofString "CCITTException", bases := [Value.ref 44], mro := [Value.ref 371, Value.ref 44, Value.ref 31, Value.type "Exception", Value.type "BaseException", Value.type "object"], ns := 370, qualname := Str.ofString "CCITTG4Parser.CCITTException", subclasses := [Value.ref 383, Value.ref 395, Value.ref 407] }, slots := #[some (Value.ref 362), none, some (Value.str (Str.ofString "CCITTException") 572), some (Value.str (Str.ofString "CCITTG4Parser.CCITTException") 580), some (Value.builtin "Exception.__new__"), some (Value.bool true)] }) ::
(nat_lit 374, { cls := Value.type "tuple", data := Data.seq #[Value.ref 371] }) ::
(nat_lit 381, { cls := Value.type "tuple", data := Data.seq #[] }) ::
(nat_lit 382, { cls := Value.type "dict", data := Data.dict #[⟨PyData.keyHash P (Str.ofString "__module__"),Value.str (Str.ofString "__module__") 595,Value.str (Str.ofString "pdfminer.ccitt") 234⟩, ⟨PyData.keyHash P (Str.ofString "__firstlineno__"),Value.str (Str.ofString "__firstlineno__") 599,Value.int 44 598⟩, ⟨PyData.keyHash P (Str.ofString "__static_attributes__"),Value.str (Str.ofString "__static_attributes__") 600,Value.ref 381⟩, ⟨PyData.keyHash P (Str.ofString "__doc__"),Value.str (Str.ofString "__doc__") 601,Value.none⟩] 2 }) ::
(nat_lit 383, { cls := Value.type "type", data := Data.cls { name := Str.ofString "EOFB", bases := [Value.ref 371], mro := [Value.ref 383, Value.ref 371, Value.ref 44, Value.ref 31, Value.type "Exception", Value.type "BaseException", Value.type "object"], ns := 382, qualname := Str.ofString "CCITTG4Parser.EOFB" }, slots := #[some (Value.ref 374), none, some (Value.str (Str.ofString "EOFB") 588), some (Value.str (Str.ofString "CCITTG4Parser.EOFB") 596), some (Value.builtin "Exception.__new__"), some (Value.bool true)] }) ::
(nat_lit 386, { cls := Value.type "tuple", data := Data.seq #[Value.ref 371] }) ::
(nat_lit 393, { cls := Value.type "tuple", data := Data.seq #[] }) ::
(nat_lit 394, { cls := Value.type "dict", data := Data.dict #[⟨PyData.keyHash P (Str.ofString "__module__"),Value.str (Str.ofString "__module__") 611,Value.str (Str.ofString "pdfminer.ccitt") 234⟩, ⟨PyData.keyHash P (Str.ofString "__firstlineno__"),Value.str (Str.ofString "__firstlineno__") 615,Value.int 47 614⟩, ⟨PyData.keyHash P (Str.ofString "__static_attributes__"),Value.str (Str.ofString "__static_attributes__") 616,Value.ref 393⟩, ⟨PyData.keyHash P (Str.ofString "__doc__"),Value.str (Str.ofString "__doc__") 617,Value.none⟩] 2 }) ::
(nat_lit 395, { cls := Value.type "type", data := Data.cls { name := Str.ofString "InvalidData", bases := [Value.ref 371], mro := [Value.ref 395, Value.ref 371, Value.ref 44, Value.ref 31, Value.type "Exception", Value.type "BaseException", Value.type "object"], ns := 394, qualname := Str.ofString "CCITTG4Parser.InvalidData" }, slots := #[some (Value.ref 386), none, some (Value.str (Str.ofString "InvalidData") 604), some (Value.str (Str.ofString "CCITTG4Parser.InvalidData") 612), some (Value.builtin "Exception.__new__"), some (Value.bool true)] }) ::
(nat_lit 398, { cls := Value.type "tuple", data := Data.seq #[Value.ref 371] }) ::
(nat_lit 405, { cls := Value.type "tuple", data := Data.seq #[] }) ::
(nat_lit 406, { cls := Value.type "dict", data := Data.dict #[⟨PyData.keyHash P (Str.ofString "__module__"),Value.str (Str.ofString "__module__") 627,Value.str (Str.ofString "pdfminer.ccitt") 234⟩, ⟨PyData.keyHash P (Str.ofString "__firstlineno__"),Value.str (Str.ofString "__firstlineno__") 631,Value.int 50 630⟩, ⟨PyData.keyHash P (Str.ofString "__static_attributes__"),Value.str (Str.ofString "__static_attributes__") 632,Value.ref 405⟩, ⟨PyData.keyHash P (Str.ofString "__doc__"),Value.str (Str.ofString "__doc__") 633,Value.none⟩] 2 }) ::
(nat_lit 407, { cls := Value.type "type", data := Data.cls { name := Str.ofString "ByteSkip", bases := [Value.ref 371], mro := [Value.ref 407, Value.ref 371, Value.ref 44, Value.ref 31, Value.type "Exception", Value.type "BaseException", Value.type "object"], ns := 406, qualname := Str.ofString "CCITTG4Parser.ByteSkip" }, slots := #[some (Value.ref 398), none, some (Value.str (Str.ofString "ByteSkip") 620), some (Value.str (Str.ofString "CCITTG4Parser.ByteSkip") 628), some (Value.builtin "Exception.__new__"), some (Value.bool true)] }) ::
(nat_lit 410, { cls := Value.type "tuple", data := Data.seq #[Value.bool false] }) ::
(nat_lit 411, { cls := Value.type "tuple", data := Data.seq #[] }) ::
(nat_lit 413, { cls := Value.type "tuple", data := Data.seq #[Value.str (Str.ofString "self") 639, Value.str (Str.ofString "width") 640, Value.str (Str.ofString "bytealign") 641] }) ::
(nat_lit 414, { cls := Value.type "tuple", data := Data.seq #[] }) ::
(nat_lit 416, { cls := Value.type "code", data := Data.fields #[Value.str (Str.ofString "__init__") 636, Value.str (Str.ofString "CCITTG4Parser.__init__") 637, Value.str (Str.ofString "/claim/cut.py") 638, Value.int 53 0, Value.int 3 0, Value.int 0 0, Value.int 0 0, Value.int 3 0, Value.ref 411, Value.bool true, Value.int 181 0, Value.ref 412, Value.none, Value.ref 413, Value.ref 414, Value.ref 415, Value.int 642 0, Value.int 53 0, Value.str (Str.ofString "/claim/cut.py") 643] }) ::
(nat_lit 417, { cls := Value.type "function", data := Data.func { name := Str.ofString "__init__", qualname := Str.ofString "CCITTG4Parser.__init__", params := Aq_CCITTG4Parser___init__, body := FuncBody.stmts Bq_CCITTG4Parser___init__, scope := Cq_CCITTG4Parser___init__, globals := 3, closure := [], defaults := Value.ref 410, kwdefaults := Value.none, pyModule := Value.str (Str.ofString "pdfminer.ccitt") 234, code := Value.ref 416 } }) ::
(nat_lit 418, { cls := Value.type "tuple", data := Data.seq #[] }) ::
(nat_lit 420, { cls := Value.type "tuple", data := Data.seq #[Value.str (Str.ofString "self") 648, Value.str (Str.ofString "data") 649, Value.str (Str.ofString "byte") 650, Value.str (Str.ofString "m") 651] }) ::
(nat_lit 421, { cls := Value.type "tuple", data := Data.seq #[] }) ::
(nat_lit 423, { cls := Value.type "code", data := Data.fields #[Value.str (Str.ofString "feedbytes") 645, Value.str (Str.ofString "CCITTG4Parser.feedbytes") 646, Value.str (Str.ofString "/claim/cut.py") 647, Value.int 59 0, Value.int 2 0, Value.int 0 0, Value.int 0 0, Value.int 3 0, Value.ref 418, Value.bool true, Value.int 181 0, Value.ref 419, Value.none, Value.ref 420, Value.ref 421, Value.ref 422, Value.int 652 0, Value.int 59 0, Value.str (Str.ofString "/claim/cut.py") 653] }) ::
(nat_lit 424, { cls := Value.type "function", data := Data.func { name := Str.ofString "feedbytes", qualname := Str.ofString "CCITTG4Parser.feedbytes", params := Aq_CCITTG4Parser_feedbytes, body := FuncBody.stmts Bq_CCITTG4Parser_feedbytes, scope := Cq_CCITTG4Parser_feedbytes, globals := 3, closure := [], defaults := Value.none, kwdefaults := Value.none, pyModule := Value.str (Str.ofString "pdfminer.ccitt") 234, code := Value.ref 423 } }) ::
(nat_lit 425, { cls := Value.type "tuple", data := Data.seq #[] }) ::
(nat_lit 427, { cls := Value.type "tuple", data := Data.seq #[Value.str (Str.ofString "self") 658, Value.str (Str.ofString "mode") 659] }) ::
(nat_lit 428, { cls := Value.type "tuple", data := Data.seq #[] }) ::
(nat_lit 430, { cls := Value.type "code", data := Data.fields #[Value.str (Str.ofString "_parse_mode") 655, Value.str (Str.ofString "CCITTG4Parser._parse_mode") 656, Value.str (Str.ofString "/claim/cut.py") 657, Value.int 70 0, Value.int 2 0, Value.int 0 0, Value.int 0 0, Value.int 3 0, Value.ref 425, Value.bool true, Value.int 181 0, Value.ref 426, Value.none, Value.ref 427, Value.ref 428, Value.ref 429, Value.int 660 0, Value.int 70 0, Value.str (Str.ofString "/claim/cut.py") 661] }) ::
(nat_lit 431, { cls := Value.type "function", data := Data.func { name := Str.ofString "_parse_mode", qualname := Str.ofString "CCITTG4Parser._parse_mode", params := Aq_CCITTG4Parser__parse_mode, body := FuncBody.stmts Bq_CCITTG4Parser__parse_mode, scope := Cq_CCITTG4Parser__parse_mode, globals := 3, closure := [], defaults := Value.none, kwdefaults := Value.none, pyModule := Value.str (Str.ofString "pdfminer.ccitt") 234, code := Value.ref 430 } }) ::
(nat_lit 432, { cls := Value.type "tuple", data := Data.seq #[] }) ::
(nat_lit 434, { cls := Value.type "tuple", data := Data.seq #[Value.str (Str.ofString "self") 666, Value.str (Str.ofString "n") 667] }) ::
(nat_lit 435, { cls := Value.type "tuple", data := Data.seq #[] }) ::
(nat_lit 437, { cls := Value.type "code", data := Data.fields #[Value.str (Str.ofString "_parse_horiz1") 663, Value.str (Str.ofString "CCITTG4Parser._parse_horiz1") 664, Value.str (Str.ofString "/claim/cut.py") 665, Value.int 94 0, Value.int 2 0, Value.int 0 0, Value.int 0 0, Value.int 3 0, Value.ref 432, Value.bool true, Value.int 181 0, Value.ref 433, Value.none, Value.ref 434, Value.ref 435, Value.ref 436, Value.int 668 0, Value.int 94 0, Value.str (Str.ofString "/claim/cut.py") 669] }) ::
(nat_lit 438, { cls := Value.type "function", data := Data.func { name := Str.ofString "_parse_horiz1", qualname := Str.ofString "CCITTG4Parser._parse_horiz1", params := Aq_CCITTG4Parser__parse_horiz1, body := FuncBody.stmts Bq_CCITTG4Parser__parse_horiz1, scope := Cq_CCITTG4Parser__parse_horiz1, globals := 3, closure := [], defaults := Value.none, kwdefaults := Value.none, pyModule := Value.str (Str.ofString "pdfminer.ccitt") 234, code := Value.ref 437 } }) ::
(nat_lit 439, { cls := Value.type "tuple", data := Data.seq #[] }) ::
(nat_lit 441, { cls := Value.type "tuple", data := Data.seq #[Value.str (Str.ofString "self") 674, Value.str (Str.ofString "n") 675] }) ::
(nat_lit 442, { cls := Value.type "tuple", data := Data.seq #[] }) ::
(nat_lit 444, { cls := Value.type "code", data := Data.fields #[Value.str (Str.ofString "_parse_horiz2") 671, Value.str (Str.ofString "CCITTG4Parser._parse_horiz2") 672, Value.str (Str.ofString "/claim/cut.py") 673, Value.int 107 0, Value.int 2 0, Value.int 0 0, Value.int 0 0, Value.int 3 0, Value.ref 439, Value.bool true, Value.int 181 0, Value.ref 440, Value.none, Value.ref 441, Value.ref 442, Value.ref 443, Value.int 676 0, Value.int 107 0, Value.str (Str.ofString "/claim/cut.py") 677] }) ::
(nat_lit 445, { cls := Value.type "function", data := Data.func { name := Str.ofString "_parse_horiz2", qualname := Str.ofString "CCITTG4Parser._parse_horiz2", params := Aq_CCITTG4Parser__parse_horiz2, body := FuncBody.stmts Bq_CCITTG4Parser__parse_horiz2, scope := Cq_CCITTG4Parser__parse_horiz2, globals := 3, closure := [], defaults := Value.none, kwdefaults := Value.none, pyModule := Value.str (Str.ofString "pdfminer.ccitt") 234, code := Value.ref 444 } }) ::
(nat_lit 446, { cls := Value.type "tuple", data := Data.seq #[] }) ::
(nat_lit 448, { cls := Value.type "tuple", data := Data.seq #[Value.str (Str.ofString "self") 682, Value.str (Str.ofString "bits") 683] }) ::
(nat_lit 449, { cls := Value.type "tuple", data := Data.seq #[] }) ::
(nat_lit 451, { cls := Value.type "code", data := Data.fields #[Value.str (Str.ofString "_parse_uncompressed") 679, Value.str (Str.ofString "CCITTG4Parser._parse_uncompressed") 680, Value.str (Str.ofString "/claim/cut.py") 681, Value.int 122 0, Value.int 2 0, Value.int 0 0, Value.int 0 0, Value.int 3 0, Value.ref 446, Value.bool true, Value.int 181 0, Value.ref 447, Value.none, Value.ref 448, Value.ref 449, Value.ref 450, Value.int 684 0, Value.int 122 0, Value.str (Str.ofString "/claim/cut.py") 685] }) ::
(nat_lit 452, { cls := Value.type "function", data := Data.func { name := Str.ofString "_parse_uncompressed", qualname := Str.ofString "CCITTG4Parser._parse_uncompressed", params := Aq_CCITTG4Parser__parse_uncompressed, body := FuncBody.stmts Bq_CCITTG4Parser__parse_uncompressed, scope := Cq_CCITTG4Parser__parse_uncompressed, globals := 3, closure := [], defaults := Value.none, kwdefaults := Value.none, pyModule := Value.str (Str.ofString "pdfminer.ccitt") 234, code := Value.ref 451 } }) ::
(nat_lit 453, { cls := Value.type "tuple", data := Data.seq #[] }) ::
(nat_lit 455, { cls := Value.type "tuple", data := Data.seq #[Value.str (Str.ofString "self") 690] }) ::
(nat_lit 456, { cls := Value.type "tuple", data := Data.seq #[] }) ::
(nat_lit 458, { cls := Value.type "code", data := Data.fields #[Value.str (Str.ofString "_get_bits") 687, Value.str (Str.ofString "CCITTG4Parser._get_bits") 688, Value.str (Str.ofString "/claim/cut.py") 689, Value.int 134 0, Value.int 1 0, Value.int 0 0, Value.int 0 0, Value.int 3 0, Value.ref 453, Value.bool true, Value.int 181 0, Value.ref 454, Value.none, Value.ref 455, Value.ref 456, Value.ref 457, Value.int 691 0, Value.int 134 0, Value.str (Str.ofString "/claim/cut.py") 692] }) ::
(nat_lit 459, { cls := Value.type "function", data := Data.func { name := Str.ofString "_get_bits", qualname := Str.ofString "CCITTG4Parser._get_bits", params := Aq_CCITTG4Parser__get_bits, body := FuncBody.stmts Bq_CCITTG4Parser__get_bits, scope := Cq_CCITTG4Parser__get_bits, globals := 3, closure := [], defaults := Value.none, kwdefaults := Value.none, pyModule := Value.str (Str.ofString "pdfminer.ccitt") 234, code := Value.ref 458 } }) ::
(nat_lit 460, { cls := Value.type "tuple", data := Data.seq #[] }) ::
(nat_lit 462, { cls := Value.type "tuple", data := Data.seq #[Value.str (Str.ofString "self") 697, Value.str (Str.ofString "i") 698] }) ::
(nat_lit 463, { cls := Value.type "tuple", data := Data.seq #[] }) ::
(nat_lit 465, { cls := Value.type "code", data := Data.fields #[Value.str (Str.ofString "_get_refline") 694, Value.str (Str.ofString "CCITTG4Parser._get_refline") 695, Value.str (Str.ofString "/claim/cut.py") 696, Value.int 137 0, Value.int 2 0, Value.int 0 0, Value.int 0 0, Value.int 3 0, Value.ref 460, Value.bool true, Value.int 181 0, Value.ref 461, Value.none, Value.ref 462, Value.ref 463, Value.ref 464, Value.int 699 0, Value.int 137 0, Value.str (Str.ofString "/claim/cut.py") 700] }) ::
(nat_lit 466, { cls := Value.type "function", data := Data.func { name := Str.ofString "_get_refline", qualname := Str.ofString "CCITTG4Parser._get_refline", params := Aq_CCITTG4Parser__get_refline, body := FuncBody.stmts Bq_CCITTG4Parser__get_refline, scope := Cq_CCITTG4Parser__get_refline, globals := 3, closure := [], defaults := Value.none, kwdefaults := Value.none, pyModule := Value.str (Str.ofString "pdfminer.ccitt") 234, code := Value.ref 465 } }) ::
(nat_lit 467, { cls := Value.type "tuple", data := Data.seq #[] }) ::
(nat_lit 469, { cls := Value.type "tuple", data := Data.seq #[Value.str (Str.ofString "self") 705] }) ::
(nat_lit 470, { cls := Value.type "tuple", data := Data.seq #[] }) ::
(nat_lit 472, { cls := Value.type "code", data := Data.fields #[Value.str (Str.ofString "reset") 702, Value.str (Str.ofString "CCITTG4Parser.reset") 703, Value.str (Str.ofString "/claim/cut.py") 704, Value.int 140 0, Value.int 1 0, Value.int 0 0, Value.int 0 0, Value.int 3 0, Value.ref 467, Value.bool true, Value.int 181 0, Value.ref 468, Value.none, Value.ref 469, Value.ref 470, Value.ref 471, Value.int 706 0, Value.int 140 0, Value.str (Str.ofString "/claim/cut.py") 707] }) ::
(nat_lit 473, { cls := Value.type "function", data := Data.func { name := Str.ofString "reset", qualname := Str.ofString "CCITTG4Parser.reset", params := Aq_CCITTG4Parser_reset, body := FuncBody.stmts Bq_CCITTG4Parser_reset, scope := Cq_CCITTG4Parser_reset, globals := 3, closure := [], defaults := Value.none, kwdefaults := Value.none, pyModule := Value.str (Str.ofString "pdfminer.ccitt") 234, code := Value.ref 472 } }) ::
(nat_lit 474, { cls := Value.type "tuple", data := Data.seq #[] }) ::
(nat_lit 476, { cls := Value.type "tuple", data := Data.seq #[Value.str (Str.ofString "self") 712, Value.str (Str.ofString "y") 713, Value.str (Str.ofString "bits") 714] }) ::
(nat_lit 477, { cls := Value.type "tuple", data := Data.seq #[] }) ::
(nat_lit 479, { cls := Value.type "code", data := Data.fields #[Value.str (Str.ofString "output_line") 709, Value.str (Str.ofString "CCITTG4Parser.output_line") 710, Value.str (Str.ofString "/claim/cut.py") 711, Value.int 147 0, Value.int 3 0, Value.int 0 0, Value.int 0 0, Value.int 3 0, Value.ref 474, Value.bool true, Value.int 181 0, Value.ref 475, Value.none, Value.ref 476, Value.ref 477, Value.ref 478, Value.int 715 0, Value.int 147 0, Value.str (Str.ofString "/claim/cut.py") 716] }) ::
(nat_lit 480, { cls := Value.type "function", data := Data.func { name := Str.ofString "output_line", qualname := Str.ofString "CCITTG4Parser.output_line", params := Aq_CCITTG4Parser_output_line, body := FuncBody.stmts Bq_CCITTG4Parser_output_line, scope := Cq_CCITTG4Parser_output_line, globals := 3, closure := [], defaults := Value.none, kwdefaults := Value.none, pyModule := Value.str (Str.ofString "pdfminer.ccitt") 234, code := Value.ref 479 } }) ::
(nat_lit 481, { cls := Value.type "tuple", data := Data.seq #[] }) ::
(nat_lit 483, { cls := Value.type "tuple", data := Data.seq #[Value.str (Str.ofString "self") 721] }) ::
(nat_lit 484, { cls := Value.type "tuple", data := Data.seq #[] }) ::
(nat_lit 486, { cls := Value.type "code", data := Data.fields #[Value.str (Str.ofString "_reset_line") 718, Value.str (Str.ofString "CCITTG4Parser._reset_line") 719, Value.str (Str.ofString "/claim/cut.py") 720, Value.int 150 0, Value.int 1 0, Value.int 0 0, Value.int 0 0, Value.int 3 0, Value.ref 481, Value.bool true, Value.int 181 0, Value.ref 482, Value.none, Value.ref 483, Value.ref 484, Value.ref 485, Value.int 722 0, Value.int 150 0, Value.str (Str.ofString "/claim/cut.py") 723] }) ::
(nat_lit 487, { cls := Value.type "function", data := Data.func { name := Str.ofString "_reset_line", qualname := Str.ofString "CCITTG4Parser._reset_line", params := Aq_CCITTG4Parser__reset_line, body := FuncBody.stmts Bq_CCITTG4Parser__reset_line, scope := Cq_CCITTG4Parser__reset_line, globals := 3, closure := [], defaults := Value.none, kwdefaults := Value.none, pyModule := Value.str (Str.ofString "pdfminer.ccitt") 234, code := Value.ref 486 } }) ::
(nat_lit 488, { cls := Value.type "tuple", data := Data.seq #[] }) ::
(nat_lit 490, { cls := Value.type "tuple", data := Data.seq #[Value.str (Str.ofString "self") 728] }) ::
(nat_lit 491, { cls := Value.type "tuple", data := Data.seq #[] }) ::
(nat_lit 493, { cls := Value.type "code", data := Data.fields #[Value.str (Str.ofString "_flush_line") 725, Value.str (Str.ofString "CCITTG4Parser._flush_line") 726, Value.str (Str.ofString "/claim/cut.py") 727, Value.int 156 0, Value.int 1 0, Value.int 0 0, Value.int 0 0, Value.int 3 0, Value.ref 488, Value.bool true, Value.int 181 0, Value.ref 489, Value.none, Value.ref 490, Value.ref 491, Value.ref 492, Value.int 729 0, Value.int 156 0, Value.str (Str.ofString "/claim/cut.py") 730] }) ::
(nat_lit 494, { cls := Value.type "function", data := Data.func { name := Str.ofString "_flush_line", qualname := Str.ofString "CCITTG4Parser._flush_line", params := Aq_CCITTG4Parser__flush_line, body := FuncBody.stmts Bq_CCITTG4Parser__flush_line, scope := Cq_CCITTG4Parser__flush_line, globals := 3, closure := [], defaults := Value.none, kwdefaults := Value.none, pyModule := Value.str (Str.ofString "pdfminer.ccitt") 234, code := Value.ref 493 } }) ::
(nat_lit 495, { cls := Value.type "tuple", data := Data.seq #[] }) ::
(nat_lit 497, { cls := Value.type "tuple", data := Data.seq #[Value.str (Str.ofString "self") 735, Value.str (Str.ofString "dx") 736, Value.str (Str.ofString "x1") 737, Value.str (Str.ofString "x0") 738, Value.str (Str.ofString "x") 739] }) ::
(nat_lit 498, { cls := Value.type "tuple", data := Data.seq #[] }) ::
(nat_lit 500, { cls := Value.type "code", data := Data.fields #[Value.str (Str.ofString "_do_vertical") 732, Value.str (Str.ofString "CCITTG4Parser._do_vertical") 733, Value.str (Str.ofString "/claim/cut.py") 734, Value.int 164 0, Value.int 2 0, Value.int 0 0, Value.int 0 0, Value.int 3 0, Value.ref 495, Value.bool true, Value.int 181 0, Value.ref 496, Value.none, Value.ref 497, Value.ref 498, Value.ref 499, Value.int 740 0, Value.int 164 0, Value.str (Str.ofString "/claim/cut.py") 741] }) ::
(nat_lit 501, { cls := Value.type "function", data := Data.func { name := Str.ofString "_do_vertical", qualname := Str.ofString "CCITTG4Parser._do_vertical", params := Aq_CCITTG4Parser__do_vertical, body := FuncBody.stmts Bq_CCITTG4Parser__do_vertical, scope := Cq_CCITTG4Parser__do_vertical, globals := 3, closure := [], defaults := Value.none, kwdefaults := Value.none, pyModule := Value.str (Str.ofString "pdfminer.ccitt") 234, code := Value.ref 500 } }) ::
(nat_lit 502, { cls := Value.type "tuple", data := Data.seq #[] }) ::
(nat_lit 504, { cls := Value.type "tuple", data := Data.seq #[Value.str (Str.ofString "self") 746, Value.str (Str.ofString "x1") 747, Value.str (Str.ofString "x") 748] }) ::
(nat_lit 505, { cls := Value.type "tuple", data := Data.seq #[] }) ::
(nat_lit 507, { cls := Value.type "code", data := Data.fields #[Value.str (Str.ofString "_do_pass") 743, Value.str (Str.ofString "CCITTG4Parser._do_pass") 744, Value.str (Str.ofString "/claim/cut.py") 745, Value.int 185 0, Value.int 1 0, Value.int 0 0, Value.int 0 0, Value.int 3 0, Value.ref 502, Value.bool true, Value.int 181 0, Value.ref 503, Value.none, Value.ref 504, Value.ref 505, Value.ref 506, Value.int 749 0, Value.int 185 0, Value.str (Str.ofString "/claim/cut.py") 750] }) ::
(nat_lit 508, { cls := Value.type "function", data := Data.func { name := Str.ofString "_do_pass", qualname := Str.ofString "CCITTG4Parser._do_pass", params := Aq_CCITTG4Parser__do_pass, body := FuncBody.stmts Bq_CCITTG4Parser__do_pass, scope := Cq_CCITTG4Parser__do_pass, globals := 3, closure := [], defaults := Value.none, kwdefaults := Value.none, pyModule := Value.str (Str.ofString "pdfminer.ccitt") 234, code := Value.ref 507 } }) ::
(nat_lit 509, { cls := Value.type "tuple", data := Data.seq #[] }) ::
(nat_lit 511, { cls := Value.type "tuple", data := Data.seq #[Value.str (Str.ofString "self") 755, Value.str (Str.ofString "n1") 756, Value.str (Str.ofString "n2") 757, Value.str (Str.ofString "x") 758, Value.str (Str.ofString "_") 759] }) ::
(nat_lit 512, { cls := Value.type "tuple", data := Data.seq #[] }) ::
(nat_lit 514, { cls := Value.type "code", data := Data.fields #[Value.str (Str.ofString "_do_horizontal") 752, Value.str (Str.ofString "CCITTG4Parser._do_horizontal") 753, Value.str (Str.ofString "/claim/cut.py") 754, Value.int 205 0, Value.int 3 0, Value.int 0 0, Value.int 0 0, Value.int 3 0, Value.ref 509, Value.bool true, Value.int 181 0, Value.ref 510, Value.none, Value.ref 511, Value.ref 512, Value.ref 513, Value.int 760 0, Value.int 205 0, Value.str (Str.ofString "/claim/cut.py") 761] }) ::
(nat_lit 515, { cls := Value.type "function", data := Data.func { name := Str.ofString "_do_horizontal", qualname := Str.ofString "CCITTG4Parser._do_horizontal", params := Aq_CCITTG4Parser__do_horizontal, body := FuncBody.stmts Bq_CCITTG4Parser__do_horizontal, scope := Cq_CCITTG4Parser__do_horizontal, globals := 3, closure := [], defaults := Value.none, kwdefaults := Value.none, pyModule := Value.str (Str.ofString "pdfminer.ccitt") 234, code := Value.ref 514 } }) ::
(nat_lit 516, { cls := Value.type "tuple", data := Data.seq #[] }) ::
(nat_lit 518, { cls := Value.type "tuple", data := Data.seq #[Value.str (Str.ofString "self") 766, Value.str (Str.ofString "bits") 767, Value.str (Str.ofString "c") 768] }) ::
(nat_lit 519, { cls := Value.type "tuple", data := Data.seq #[] }) ::
(nat_lit 521, { cls := Value.type "code", data := Data.fields #[Value.str (Str.ofString "_do_uncompressed") 763, Value.str (Str.ofString "CCITTG4Parser._do_uncompressed") 764, Value.str (Str.ofString "/claim/cut.py") 765, Value.int 221 0, Value.int 2 0, Value.int 0 0, Value.int 0 0, Value.int 3 0, Value.ref 516, Value.bool true, Value.int 181 0, Value.ref 517, Value.none, Value.ref 518, Value.ref 519, Value.ref 520, Value.int 769 0, Value.int 221 0, Value.str (Str.ofString "/claim/cut.py") 770] }) ::
(nat_lit 522, { cls := Value.type "function", data := Data.func { name := Str.ofString "_do_uncompressed", qualname := Str.ofString "CCITTG4Parser._do_uncompressed", params := Aq_CCITTG4Parser__do_uncompressed, body := FuncBody.stmts Bq_CCITTG4Parser__do_uncompressed, scope := Cq_CCITTG4Parser__do_uncompressed, globals := 3, closure := [], defaults := Value.none, kwdefaults := Value.none, pyModule := Value.str (Str.ofString "pdfminer.ccitt") 234, code := Value.ref 521 } }) ::
(nat_lit 523, { cls := Value.type "tuple", data := Data.seq #[Value.str (Str.ofString "_accept") 772, Value.str (Str.ofString "_color") 773, Value.str (Str.ofString "_curline") 774, Value.str (Str.ofString "_curpos") 775, Value.str (Str.ofString "_n1") 776, Value.str (Str.ofString "_n2") 777, Value.str (Str.ofString "_refline") 778, Value.str (Str.ofString "_state") 779, Value.str (Str.ofString "_y") 780, Value.str (Str.ofString "bytealign") 781, Value.str (Str.ofString "width") 782] }) ::
(nat_lit 524, { cls := Value.type "dict", data := Data.dict #[⟨PyData.keyHash P (Str.ofString "__module__"),Value.str (Str.ofString "__module__") 320,Value.str (Str.ofString "pdfminer.ccitt") 234⟩, ⟨PyData.keyHash P (Str.ofString "__firstlineno__"),Value.str (Str.ofString "__firstlineno__") 324,Value.int 35 323⟩, ⟨PyData.keyHash P (Str.ofString "MODE"),Value.str (Str.ofString "MODE") 346,Value.ref 139⟩, ⟨PyData.keyHash P (Str.ofString "WHITE"),Value.str (Str.ofString "WHITE") 451,Value.ref 243⟩, ⟨PyData.keyHash P (Str.ofString "BLACK"),Value.str (Str.ofString "BLACK") 556,Value.ref 347⟩, ⟨PyData.keyHash P (Str.ofString "UNCOMPRESSED"),Value.str (Str.ofString "UNCOMPRESSED") 571,Value.ref 361⟩, ⟨PyData.keyHash P (Str.ofString "CCITTException"),Value.str (Str.ofString "CCITTException") 587,Value.ref 371⟩, ⟨PyData.keyHash P (Str.ofString "EOFB"),Value.str (Str.ofString "EOFB") 603,Value.ref 383⟩, ⟨PyData.keyHash P (Str.ofString "InvalidData"),Value.str (Str.ofString "InvalidData") 619,Value.ref 395⟩, ⟨PyData.keyHash P (Str.ofString "ByteSkip"),Value.str (Str.ofString "ByteSkip") 635,Value.ref 407⟩, ⟨PyData.keyHash P (Str.ofString "__init__"),Value.str (Str.ofString "__init__") 644,Value.ref 417⟩, ⟨PyData.keyHash P (Str.ofString "feedbytes"),Value.str (Str.ofString "feedbytes") 654,Value.ref 424⟩, ⟨PyData.keyHash P (Str.ofString "_parse_mode"),Value.str (Str.ofString "_parse_mode") 662,Value.ref 431⟩, ⟨PyData.keyHash P (Str.ofString "_parse_horiz1"),Value.str (Str.ofString "_parse_horiz1") 670,Value.ref 438⟩, ⟨PyData.keyHash P (Str.ofString "_parse_horiz2"),Value.str (Str.ofString "_parse_horiz2") 678,Value.ref 445⟩, ⟨PyData.keyHash P (Str.ofString "_parse_uncompressed"),Value.str (Str.ofString "_parse_uncompressed") 686,Value.ref 452⟩, ⟨PyData.keyHash P (Str.ofString "_get_bits"),Value.str (Str.ofString "_get_bits") 693,Value.ref 459⟩, ⟨PyData.keyHash P (Str.ofString "_get_refline"),Value.str (Str.ofString "_get_refline") 701,Value.ref 466⟩, ⟨PyData.keyHash P (Str.ofString "reset"),Value.str (Str.ofString "reset") 708,Value.ref 473⟩, ⟨PyData.keyHash P (Str.ofString "output_line"),Value.str (Str.ofString "output_line") 717,Value.ref 480⟩, ⟨PyData.keyHash P (Str.ofString "_reset_line"),Value.str (Str.ofString "_reset_line") 724,Value.ref 487⟩, ⟨PyData.keyHash P (Str.ofString "_flush_line"),Value.str (Str.ofString "_flush_line") 731,Value.ref 494⟩, ⟨PyData.keyHash P (Str.ofString "_do_vertical"),Value.str (Str.ofString "_do_vertical") 742,Value.ref 501⟩, ⟨PyData.keyHash P (Str.ofString "_do_pass"),Value.str (Str.ofString "_do_pass") 751,Value.ref 508⟩, ⟨PyData.keyHash P (Str.ofString "_do_horizontal"),Value.str (Str.ofString "_do_horizontal") 762,Value.ref 515⟩, ⟨PyData.keyHash P (Str.ofString "_do_uncompressed"),Value.str (Str.ofString "_do_uncompressed") 771,Value.ref 522⟩, ⟨PyData.keyHash P (Str.ofString "__static_attributes__"),Value.str (Str.ofString "__static_attributes__") 783,Value.ref 523⟩, ⟨PyData.keyHash P (Str.ofString "__doc__"),Value.str (Str.ofString "__doc__") 784,Value.none⟩] 2 }) ::
(nat_lit 525, { cls := Value.type "type", data := Data.cls { name := Str.ofString "CCITTG4Parser", bases := [Value.ref 94], mro := [Value.ref 525, Value.ref 94, Value.type "object"], ns := 524, qualname := Str.ofString "CCITTG4Parser", subclasses := [Value.ref 557] }, slots := #[some (Value.ref 99), none, some (Value.str (Str.ofString "CCITTG4Parser") 313), some (Value.str (Str.ofString "CCITTG4Parser") 321), some (Value.builtin "object.__new__"), some (Value.bool true)] }) ::
(nat_lit 528, { cls := Value.type "tuple", data := Data.seq #[Value.ref 525] }) ::
(nat_lit 535, { cls := Value.type "tuple", data := Data.seq #[Value.bool false, Value.bool false] }) ::
(nat_lit 536, { cls := Value.type "tuple", data := Data.seq #[] }) ::
(nat_lit 538, { cls := Value.type "tuple", data := Data.seq #[Value.str (Str.ofString "self") 802, Value.str (Str.ofString "width") 803, Value.str (Str.ofString "bytealign") 804, Value.str (Str.ofString "reversed") 805] }) ::
(nat_lit 539, { cls := Value.type "tuple", data := Data.seq #[] }) ::
(nat_lit 541, { cls := Value.type "code", data := Data.fields #[Value.str (Str.ofString "__init__") 799, Value.str (Str.ofString "CCITTFaxDecoder.__init__") 800, Value.str (Str.ofString "/claim/cut.py") 801, Value.int 228 0, Value.int 4 0, Value.int 0 0, Value.int 0 0, Value.int 3 0, Value.ref 536, Value.bool true, Value.int 181 0, Value.ref 537, Value.none, Value.ref 538, Value.ref 539, Value.ref 540, Value.int 806 0, Value.int 228 0, Value.str (Str.ofString "/claim/cut.py") 807] }) ::
(nat_lit 542, { cls := Value.type "function", data := Data.func { name := Str.ofString "__init__", qualname := Str.ofString "CCITTFaxDecoder.__init__", params := Aq_CCITTFaxDecoder___init__, body := FuncBody.stmts Bq_CCITTFaxDecoder___init__, scope := Cq_CCITTFaxDecoder___init__, globals := 3, closure := [], defaults := Value.ref 535, kwdefaults := Value.none, pyModule := Value.str (Str.ofString "pdfminer.ccitt") 234, code := Value.ref 541 } }) ::
(nat_lit 543, { cls := Value.type "tuple", data := Data.seq #[] }) ::
(nat_lit 545, { cls := Value.type "tuple", data := Data.seq #[Value.str (Str.ofString "self") 812] }) ::
(nat_lit 546, { cls := Value.type "tuple", data := Data.seq #[] }) ::
(nat_lit 548, { cls := Value.type "code", data := Data.fields #[Value.str (Str.ofString "close") 809, Value.str (Str.ofString "CCITTFaxDecoder.close") 810, Value.str (Str.ofString "/claim/cut.py") 811, Value.int 233 0, Value.int 1 0, Value.int 0 0, Value.int 0 0, Value.int 3 0, Value.ref 543, Value.bool true, Value.int 181 0, Value.ref 544, Value.none, Value.ref 545, Value.ref 546, Value.ref 547, Value.int 813 0, Value.int 233 0, Value.str (Str.ofString "/claim/cut.py") 814] }) ::
(nat_lit 549, { cls := Value.type "function", data := Data.func { name := Str.ofString "close", qualname := Str.ofString "CCITTFaxDecoder.close", params := Aq_CCITTFaxDecoder_close, body := FuncBody.stmts Bq_CCITTFaxDecoder_close, scope := Cq_CCITTFaxDecoder_close, globals := 3, closure := [], defaults := Value.none, kwdefaults := Value.none, pyModule := Value.str (Str.ofString "pdfminer.ccitt") 234, code := Value.ref 548 } }) ::
(nat_lit 550, { cls := Value.type "tuple", data := Data.seq #[] }) ::
(nat_lit 553, { cls := Value.type "code", data := Data.fields #[Value.str (Str.ofString "output_line") 816, Value.str (Str.ofString "CCITTFaxDecoder.output_line") 817, Value.str (Str.ofString "/claim/cut.py") 818, Value.int 236 0, Value.int 3 0, Value.int 0 0, Value.int 0 0, Value.int 3 0, Value.ref 550, Value.bool true, Value.int 181 0, Value.ref 551, Value.none, Value.none, Value.none, Value.ref 552, Value.int 819 0, Value.int 236 0, Value.str (Str.ofString "/claim/cut.py") 820] }) ::
(nat_lit 554, { cls := Value.type "function", data := Data.func { name := Str.ofString "output_line", qualname := Str.ofString "CCITTFaxDecoder.output_line", params := Aq_CCITTFaxDecoder_output_line, body := FuncBody.stmts Bq_CCITTFaxDecoder_output_line, scope := Cq_CCITTFaxDecoder_output_line, globals := 3, closure := [], defaults := Value.none, kwdefaults := Value.none, pyModule := Value.str (Str.ofString "pdfminer.ccitt") 234, code := Value.ref 553 } }) ::
(nat_lit 555, { cls := Value.type "tuple", data := Data.seq #[Value.str (Str.ofString "_buf") 822, Value.str (Str.ofString "reversed") 823] }) ::
(nat_lit 556, { cls := Value.type "dict", data := Data.dict #[⟨PyData.keyHash P (Str.ofString "__module__"),Value.str (Str.ofString "__module__") 794,Value.str (Str.ofString "pdfminer.ccitt") 234⟩, ⟨PyData.keyHash P (Str.ofString "__firstlineno__"),Value.str (Str.ofString "__firstlineno__") 798,Value.int 226 797⟩, ⟨PyData.keyHash P (Str.ofString "__init__"),Value.str (Str.ofString "__init__") 808,Value.ref 542⟩, ⟨PyData.keyHash P (Str.ofString "close"),Value.str (Str.ofString "close") 815,Value.ref 549⟩, ⟨PyData.keyHash P (Str.ofString "output_line"),Value.str (Str.ofString "output_line") 821,Value.ref 554⟩, ⟨PyData.keyHash P (Str.ofString "__static_attributes__"),Value.str (Str.ofString "__static_attributes__") 824,Value.ref 555⟩, ⟨PyData.keyHash P (Str.ofString "__doc__"),Value.str (Str.ofString "__doc__") 825,Value.none⟩] 2 }) ::
(nat_lit 557, { cls := Value.type "type", data := Data.cls { name := Str.ofString "CCITTFaxDecoder", bases := [Value.ref 525], mro := [Value.ref 557, Value.ref 525, Value.ref 94, Value.type "object"], ns := 556, qualname := Str.ofString "CCITTFaxDecoder" }, slots := #[some (Value.ref 528), none, some (Value.str (Str.ofString "CCITTFaxDecoder") 787), some (Value.str (Str.ofString "CCITTFaxDecoder") 795), some (Value.builtin "object.__new__"), some (Value.bool true)] }) ::
(nat_lit 560, { cls := Value.type "tuple", data := Data.seq #[] }) ::
(nat_lit 562, { cls := Value.type "tuple", data := Data.seq #[] }) ::
(nat_lit 563, { cls := Value.type "tuple", data := Data.seq #[] }) ::
(nat_lit 565, { cls := Value.type "code", data := Data.fields #[Value.str (Str.ofString "_law_steps") 830, Value.str (Str.ofString "_law_steps") 831, Value.str (Str.ofString "/claim/cut.py") 832, Value.int 245 0, Value.int 0 0, Value.int 0 0, Value.int 0 0, Value.int 3 0, Value.ref 560, Value.bool true, Value.int 181 0, Value.ref 561, Value.none, Value.ref 562, Value.ref 563, Value.ref 564, Value.int 833 0, Value.int 245 0, Value.str (Str.ofString "/claim/cut.py") 834] }) ::
(nat_lit 566, { cls := Value.type "function", data := Data.func { name := Str.ofString "_law_steps", qualname := Str.ofString "_law_steps", params := Aq__law_steps, body := FuncBody.stmts Bq__law_steps, scope := Cq__law_steps, globals := 3, closure := [], defaults := Value.none, kwdefaults := Value.none, pyModule := Value.str (Str.ofString "law_ao0017_01") 828, code := Value.ref 565 } }) ::
(nat_lit 567, { cls := Value.type "list", data := Data.seq #[Value.str (Str.ofString "00110101") 836, Value.str (Str.ofString "000111") 837, Value.str (Str.ofString "0111") 838, Value.str (Str.ofString "1000") 839, Value.str (Str.ofString "1011") 840, Value.str (Str.ofString "1100") 841, Value.str (Str.ofString "1110") 842, Value.str (Str.ofString "1111") 843, Value.str (Str.ofString "10011") 844, Value.str (Str.ofString "10100") 845, Value.str (Str.ofString "00111") 846, Value.str (Str.ofString "01000") 847, Value.str (Str.ofString "001000") 848] }) ::
(nat_lit 568, { cls := Value.type "list", data := Data.seq #[Value.str (Str.ofString "0000110111") 849, Value.str (Str.ofString "010") 850, Value.str (Str.ofString "11") 851, Value.str (Str.ofString "10") 852, Value.str (Str.ofString "011") 853, Value.str (Str.ofString "0011") 854, Value.str (Str.ofString "0010") 855, Value.str (Str.ofString "00011") 856, Value.str (Str.ofString "000101") 857, Value.str (Str.ofString "000100") 858, Value.str (Str.ofString "0000100") 859, Value.str (Str.ofString "0000101") 860, Value.str (Str.ofString "0000111") 861] }) ::
(nat_lit 569, { cls := Value.type "list", data := Data.seq #[Value.ref 567, Value.ref 568] }) ::
(nat_lit 570, { cls := Value.type "tuple", data := Data.seq #[] }) ::
(nat_lit 573, { cls := Value.type "code", data := Data.fields #[Value.str (Str.ofString "_law_rows") 863, Value.str (Str.ofString "_law_rows") 864, Value.str (Str.ofString "/claim/cut.py") 865, Value.int 248 0, Value.int 2 0, Value.int 0 0, Value.int 0 0, Value.int 3 0, Value.ref 570, Value.bool true, Value.int 181 0, Value.ref 571, Value.none, Value.none, Value.none, Value.ref 572, Value.int 866 0, Value.int 248 0, Value.str (Str.ofString "/claim/cut.py") 867] }) ::
(nat_lit 574, { cls := Value.type "function", data := Data.func { name := Str.ofString "_law_rows", qualname := Str.ofString "_law_rows", params := Aq__law_rows, body := FuncBody.stmts Bq__law_rows, scope := Cq__law_rows, globals := 3, closure := [], defaults := Value.none, kwdefaults := Value.none, pyModule := Value.str (Str.ofString "law_ao0017_01") 828, code := Value.ref 573 } }) ::
(nat_lit 575, { cls := Value.type "tuple", data := Data.seq #[] }) ::
(nat_lit 577, { cls := Value.type "tuple", data := Data.seq #[Value.str (Str.ofString "row") 872, Value.str (Str.ofString "place") 873, Value.str (Str.ofString "colour") 874, Value.str (Str.ofString "k") 875] }) ::
(nat_lit 578, { cls := Value.type "tuple", data := Data.seq #[] }) ::
(nat_lit 580, { cls := Value.type "code", data := Data.fields #[Value.str (Str.ofString "_law_near") 869, Value.str (Str.ofString "_law_near") 870, Value.str (Str.ofString "/claim/cut.py") 871, Value.int 264 0, Value.int 3 0, Value.int 0 0, Value.int 0 0, Value.int 3 0, Value.ref 575, Value.bool true, Value.int 181 0, Value.ref 576, Value.none, Value.ref 577, Value.ref 578, Value.ref 579, Value.int 876 0, Value.int 264 0, Value.str (Str.ofString "/claim/cut.py") 877] }) ::
(nat_lit 581, { cls := Value.type "function", data := Data.func { name := Str.ofString "_law_near", qualname := Str.ofString "_law_near", params := Aq__law_near, body := FuncBody.stmts Bq__law_near, scope := Cq__law_near, globals := 3, closure := [], defaults := Value.none, kwdefaults := Value.none, pyModule := Value.str (Str.ofString "law_ao0017_01") 828, code := Value.ref 580 } }) ::
(nat_lit 582, { cls := Value.type "tuple", data := Data.seq #[] }) ::
(nat_lit 584, { cls := Value.type "tuple", data := Data.seq #[Value.str (Str.ofString "row") 882, Value.str (Str.ofString "above") 883, Value.str (Str.ofString "code") 884, Value.str (Str.ofString "place") 885, Value.str (Str.ofString "colour") 886, Value.str (Str.ofString "here") 887, Value.str (Str.ofString "there") 888, Value.str (Str.ofString "back") 889] }) ::
(nat_lit 585, { cls := Value.type "tuple", data := Data.seq #[] }) ::
(nat_lit 587, { cls := Value.type "code", data := Data.fields #[Value.str (Str.ofString "_law_coded") 879, Value.str (Str.ofString "_law_coded") 880, Value.str (Str.ofString "/claim/cut.py") 881, Value.int 269 0, Value.int 2 0, Value.int 0 0, Value.int 0 0, Value.int 3 0, Value.ref 582, Value.bool true, Value.int 181 0, Value.ref 583, Value.none, Value.ref 584, Value.ref 585, Value.ref 586, Value.int 890 0, Value.int 269 0, Value.str (Str.ofString "/claim/cut.py") 891] }) ::
(nat_lit 588, { cls := Value.type "function", data := Data.func { name := Str.ofString "_law_coded", qualname := Str.ofString "_law_coded", params := Aq__law_coded, body := FuncBody.stmts Bq__law_coded, scope := Cq__law_coded, globals := 3, closure := [], defaults := Value.none, kwdefaults := Value.none, pyModule := Value.str (Str.ofString "law_ao0017_01") 828, code := Value.ref 587 } }) ::
(nat_lit 589, { cls := Value.type "tuple", data := Data.seq #[] }) ::
(nat_lit 591, { cls := Value.type "tuple", data := Data.seq #[Value.str (Str.ofString "rows") 896, Value.str (Str.ofString "width") 897, Value.str (Str.ofString "aligned") 898, Value.str (Str.ofString "ended") 899, Value.str (Str.ofString "code") 900, Value.str (Str.ofString "ends") 901, Value.str (Str.ofString "above") 902, Value.str (Str.ofString "row") 903, Value.str (Str.ofString "octets") 904, Value.str (Str.ofString "k") 905, Value.str (Str.ofString "octet") 906, Value.str (Str.ofString "sign") 907] }) ::
(nat_lit 592, { cls := Value.type "tuple", data := Data.seq #[] }) ::
(nat_lit 594, { cls := Value.type "code", data := Data.fields #[Value.str (Str.ofString "_law_octets") 893, Value.str (Str.ofString "_law_octets") 894, Value.str (Str.ofString "/claim/cut.py") 895, Value.int 283 0, Value.int 4 0, Value.int 0 0, Value.int 0 0, Value.int 3 0, Value.ref 589, Value.bool true, Value.int 181 0, Value.ref 590, Value.none, Value.ref 591, Value.ref 592, Value.ref 593, Value.int 908 0, Value.int 283 0, Value.str (Str.ofString "/claim/cut.py") 909] }) ::
(nat_lit 595, { cls := Value.type "function", data := Data.func { name := Str.ofString "_law_octets", qualname := Str.ofString "_law_octets", params := Aq__law_octets, body := FuncBody.stmts Bq__law_octets, scope := Cq__law_octets, globals := 3, closure := [], defaults := Value.none, kwdefaults := Value.none, pyModule := Value.str (Str.ofString "law_ao0017_01") 828, code := Value.ref 594 } }) ::
(nat_lit 596, { cls := Value.type "tuple", data := Data.seq #[] }) ::
(nat_lit 599, { cls := Value.type "code", data := Data.fields #[Value.str (Str.ofString "_law_packed") 911, Value.str (Str.ofString "_law_packed") 912, Value.str (Str.ofString "/claim/cut.py") 913, Value.int 300 0, Value.int 2 0, Value.int 0 0, Value.int 0 0, Value.int 3 0, Value.ref 596, Value.bool true, Value.int 181 0, Value.ref 597, Value.none, Value.none, Value.none, Value.ref 598, Value.int 914 0, Value.int 300 0, Value.str (Str.ofString "/claim/cut.py") 915] }) ::
(nat_lit 600, { cls := Value.type "function", data := Data.func { name := Str.ofString "_law_packed", qualname := Str.ofString "_law_packed", params := Aq__law_packed, body := FuncBody.stmts Bq__law_packed, scope := Cq__law_packed, globals := 3, closure := [], defaults := Value.none, kwdefaults := Value.none, pyModule := Value.str (Str.ofString "law_ao0017_01") 828, code := Value.ref 599 } }) ::
(nat_lit 601, { cls := Value.type "tuple", data := Data.seq #[] }) ::
(nat_lit 603, { cls := Value.type "tuple", data := Data.seq #[Value.str (Str.ofString "script") 920, Value.str (Str.ofString "head") 921, Value.str (Str.ofString "width") 922, Value.str (Str.ofString "aligned") 923, Value.str (Str.ofString "black") 924, Value.str (Str.ofString "decoder") 925, Value.str (Str.ofString "due") 926, Value.str (Str.ofString "rows") 927, Value.str (Str.ofString "octets") 928, Value.str (Str.ofString "ends") 929, Value.str (Str.ofString "turn") 930, Value.str (Str.ofString "told") 931, Value.str (Str.ofString "k") 932] }) ::
(nat_lit 604, { cls := Value.type "tuple", data := Data.seq #[] }) ::
(nat_lit 606, { cls := Value.type "code", data := Data.fields #[Value.str (Str.ofString "law") 917, Value.str (Str.ofString "law") 918, Value.str (Str.ofString "/claim/cut.py") 919, Value.int 303 0, Value.int 1 0, Value.int 0 0, Value.int 0 0, Value.int 3 0, Value.ref 601, Value.bool true, Value.int 181 0, Value.ref 602, Value.none, Value.ref 603, Value.ref 604, Value.ref 605, Value.int 933 0, Value.int 303 0, Value.str (Str.ofString "/claim/cut.py") 934] }) ::
(nat_lit 607, { cls := Value.type "function", data := Data.func { name := Str.ofString "law", qualname := Str.ofString "law", params := Aq_law, body := FuncBody.stmts Bq_law, scope := Cq_law, globals := 3, closure := [], defaults := Value.none, kwdefaults := Value.none, pyModule := Value.str (Str.ofString "law_ao0017_01") 828, code := Value.ref 606 } }) :: []) : List (Nat × Obj))
noncomputable def hd.heap_39 : Params → Frag := by
  refine (?f : (b : Params → Frag) → K0 = b → (Params → Frag)) ?b ?h
  case f => exact fun b _ => b
  case h =>
    delta K0 Aq__wall Bq__wall Cq__wall Aq_get_bytes Bq_get_bytes Cq_get_bytes Aq__law_steps Bq__law_steps Cq__law_steps Aq__law_rows Bq__law_rows Cq__law_rows Aq__law_near Bq__law_near Cq__law_near Aq__law_coded Bq__law_coded Cq__law_coded Aq__law_octets Bq__law_octets Cq__law_octets Aq__law_packed Bq__law_packed Cq__law_packed Aq_law Bq_law Cq_law Aq_BitParser___init__ Bq_BitParser___init__ Cq_BitParser___init__ Aq_BitParser_add Bq_BitParser_add Cq_BitParser_add Aq_BitParser_feedbytes Bq_BitParser_feedbytes Cq_BitParser_feedbytes Aq_BitParser__parse_bit Bq_BitParser__parse_bit Cq_BitParser__parse_bit Aq_CCITTG4Parser___init__ Bq_CCITTG4Parser___init__ Cq_CCITTG4Parser___init__ Aq_CCITTG4Parser_feedbytes Bq_CCITTG4Parser_feedbytes Cq_CCITTG4Parser_feedbytes Aq_CCITTG4Parser__parse_mode Bq_CCITTG4Parser__parse_mode Cq_CCITTG4Parser__parse_mode Aq_CCITTG4Parser__parse_horiz1 Bq_CCITTG4Parser__parse_horiz1 Cq_CCITTG4Parser__parse_horiz1 Aq_CCITTG4Parser__parse_horiz2 Bq_CCITTG4Parser__parse_horiz2 Cq_CCITTG4Parser__parse_horiz2 Aq_CCITTG4Parser__parse_uncompressed Bq_CCITTG4Parser__parse_uncompressed Cq_CCITTG4Parser__parse_uncompressed Aq_CCITTG4Parser__get_bits Bq_CCITTG4Parser__get_bits Cq_CCITTG4Parser__get_bits Aq_CCITTG4Parser__get_refline Bq_CCITTG4Parser__get_refline Cq_CCITTG4Parser__get_refline Aq_CCITTG4Parser_reset Bq_CCITTG4Parser_reset Cq_CCITTG4Parser_reset Aq_CCITTG4Parser_output_line Bq_CCITTG4Parser_output_line Cq_CCITTG4Parser_output_line Aq_CCITTG4Parser__reset_line Bq_CCITTG4Parser__reset_line Cq_CCITTG4Parser__reset_line Aq_CCITTG4Parser__flush_line Bq_CCITTG4Parser__flush_line Cq_CCITTG4Parser__flush_line Aq_CCITTG4Parser__do_vertical Bq_CCITTG4Parser__do_vertical Cq_CCITTG4Parser__do_vertical Aq_CCITTG4Parser__do_pass Bq_CCITTG4Parser__do_pass Cq_CCITTG4Parser__do_pass Aq_CCITTG4Parser__do_horizontal Bq_CCITTG4Parser__do_horizontal Cq_CCITTG4Parser__do_horizontal Aq_CCITTG4Parser__do_uncompressed Bq_CCITTG4Parser__do_uncompressed Cq_CCITTG4Parser__do_uncompressed Aq_CCITTFaxDecoder___init__ Bq_CCITTFaxDecoder___init__ Cq_CCITTFaxDecoder___init__ Aq_CCITTFaxDecoder_close Bq_CCITTFaxDecoder_close Cq_CCITTFaxDecoder_close Aq_CCITTFaxDecoder_output_line Bq_CCITTFaxDecoder_output_line Cq_CCITTFaxDecoder_output_line
    exact rfl
noncomputable def V0 : Program := { PGM with main := { PGM.main with body := [Sq0, Sq2, Sq4, Sq6, Sq7, Sq8, Sq9, Sq11, Sq12, Sq13, Sq14, Sq15, Sq16, Sq17, Sq18] } }
noncomputable def hd.view_39 : Program := by
  refine (?f : (b : Program) → V0 = b → Program) ?b ?h
  case f => exact fun b _ => b
  case h =>
    delta V0 Sq0 Sq2 Sq4 Sq6 Sq7 Sq8 Sq9 Sq11 Sq12 Sq13 Sq14 Sq15 Sq16 Sq17 Sq18
    exact rfl
noncomputable def adK : List Addr := 2 :: 3 :: 15 :: 17 :: 18 :: 20 :: 21 :: 22 :: 29 :: 30 :: 31 :: 32 :: 35 :: 42 :: 43 :: 44 :: 47 :: 49 :: 50 :: 52 :: 53 :: 61 :: 63 :: 64 :: 66 :: 67 :: 68 :: 70 :: 71 :: 73 :: 74 :: 75 :: 76 :: 77 :: 78 :: 80 :: 81 :: 83 :: 84 :: 85 :: 87 :: 88 :: 90 :: 91 :: 92 :: 93 :: 94 :: 95 :: 96 :: 99 :: 106 :: 107 :: 108 :: 109 :: 110 :: 111 :: 112 :: 113 :: 114 :: 115 :: 116 :: 117 :: 118 :: 119 :: 120 :: 121 :: 122 :: 123 :: 124 :: 125 :: 126 :: 127 :: 128 :: 129 :: 130 :: 131 :: 132 :: 133 :: 134 :: 135 :: 136 :: 137 :: 138 :: 139 :: 140 :: 141 :: 142 :: 143 :: 144 :: 145 :: 146 :: 147 :: 148 :: 149 :: 150 :: 151 :: 152 :: 153 :: 154 :: 155 :: 156 :: 157 :: 158 :: 159 :: 160 :: 161 :: 162 :: 163 :: 164 :: 165 :: 166 :: 167 :: 168 :: 169 :: 170 :: 171 :: 172 :: 173 :: 174 :: 175 :: 176 :: 177 :: 178 :: 179 :: 180 :: 181 :: 182 :: 183 :: 184 :: 185 :: 186 :: 187 :: 188 :: 189 :: 190 :: 191 :: 192 :: 193 :: 194 :: 195 :: 196 :: 197 :: 198 :: 199 :: 200 :: 201 :: 202 :: 203 :: 204 :: 205 :: 206 :: 207 :: 208 :: 209 :: 210 :: 211 :: 212 :: 213 :: 214 :: 215 :: 216 :: 217 :: 218 :: 219 :: 220 :: 221 :: 222 :: 223 :: 224 :: 225 :: 226 :: 227 :: 228 :: 229 :: 230 :: 231 :: 232 :: 233 :: 234 :: 235 :: 236 :: 237 :: 238 :: 239 :: 240 :: 241 :: 242 :: 243 :: 244 :: 245 :: 246 :: 247 :: 248 :: 249 :: 250 :: 251 :: 252 :: 253 :: 254 :: 255 :: 256 :: 257 :: 258 :: 259 :: 260 :: 261 :: 262 :: 263 :: 264 :: 265 :: 266 :: 267 :: 268 :: 269 :: 270 :: 271 :: 272 :: 273 :: 274 :: 275 :: 276 :: 277 :: 278 :: 279 :: 280 :: 281 :: 282 :: 283 :: 284 :: 285 :: 286 :: 287 :: 288 :: 289 :: 290 :: 291 :: 292 :: 293 :: 294 :: 295 :: 296 :: 297 :: 298 :: 299 :: 300 :: 301 :: 302 :: 303 :: 304 :: 305 :: 306 :: 307 :: 308 :: 309 :: 310 :: 311 :: 312 :: 313 :: 314 :: 315 :: 316 :: 317 :: 318 :: 319 :: 320 :: 321 :: 322 :: 323 :: 324 :: 325 :: 326 :: 327 :: 328 :: 329 :: 330 :: 331 :: 332 :: 333 :: 334 :: 335 :: 336 :: 337 :: 338 :: 339 :: 340 :: 341 :: 342 :: 343 :: 344 :: 345 :: 346 :: 347 :: 348 :: 349 :: 350 :: 351 :: 352 :: 353 :: 354 :: 355 :: 356 :: 357 :: 358 :: 359 :: 360 :: 361 :: 362 :: 369 :: 370 :: 371 :: 374 :: 381 :: 382 :: 383 :: 386 :: 393 :: 394 :: 395 :: 398 :: 405 :: 406 :: 407 :: 410 :: 411 :: 413 :: 414 :: 416 :: 417 :: 418 :: 420 :: 421 :: 423 :: 424 :: 425 :: 427 :: 428 :: 430 :: 431 :: 432 :: 434 :: 435 :: 437 :: 438 :: 439 :: 441 :: 442 :: 444 :: 445 :: 446 :: 448 :: 449 :: 451 :: 452 :: 453 :: 455 :: 456 :: 458 :: 459 :: 460 :: 462 :: 463 :: 465 :: 466 :: 467 :: 469 :: 470 :: 472 :: 473 :: 474 :: 476 :: 477 :: 479 :: 480 :: 481 :: 483 :: 484 :: 486 :: 487 :: 488 :: 490 :: 491 :: 493 :: 494 :: 495 :: 497 :: 498 :: 500 :: 501 :: 502 :: 504 :: 505 :: 507 :: 508 :: 509 :: 511 :: 512 :: 514 :: 515 :: 516 :: 518 :: 519 :: 521 :: 522 :: 523 :: 524 :: 525 :: 528 :: 535 :: 536 :: 538 :: 539 :: 541 :: 542 :: 543 :: 545 :: 546 :: 548 :: 549 :: 550 :: 553 :: 554 :: 555 :: 556 :: 557 :: 560 :: 562 :: 563 :: 565 :: 566 :: 567 :: 568 :: 569 :: 570 :: 573 :: 574 :: 575 :: 577 :: 578 :: 580 :: 581 :: 582 :: 584 :: 585 :: 587 :: 588 :: 589 :: 591 :: 592 :: 594 :: 595 :: 596 :: 599 :: 600 :: 601 :: 603 :: 604 :: 606 :: 607 :: []
noncomputable abbrev CBody : List Stmt := behindTheImports PGM
noncomputable def envT : Env := { scope := PGM.main.scope, locals := mainNs, globals := mainNs, cells := [], code := Value.ref 13, frame := some 14 }
noncomputable def b11 : Obj := { cls := Value.type "tuple", data := Data.seq #[] }
noncomputable def b12 : Obj := { cls := Value.none, data := Data.fields #[] }
noncomputable def b13 : Obj := { cls := Value.type "code", data := Data.fields #[Value.str (Str.ofString "<module>") 182, Value.str (Str.ofString "<module>") 183, Value.str (Str.ofString "/claim/cut.py") 184, Value.int 1 0, Value.int 0 0, Value.int 0 0, Value.int 0 0, Value.int 0 0, Value.ref 11, Value.bool false, Value.int 181 0, Value.ref 12, Value.none, Value.none, Value.none, Value.none, Value.int 185 0, Value.int 1 0, Value.str (Str.ofString "/claim/cut.py") 186] }
noncomputable def b14 : Obj := { cls := Value.type "frame", slots := #[some (Value.ref 13), some (Value.ref 3), some (Value.ref 3), none, some (Value.str (Str.ofString "__main__") 164), none, some (Value.ref 0)] }
noncomputable def treeB : Params → BT := fun P => BT.node (boot_o_0 P) (BT.node (boot_o_1 P) (BT.node (boot_o_3 P) (BT.node (boot_o_7 P) BT.nil BT.nil) (BT.node b11 BT.nil BT.nil)) (BT.node (boot_o_5 P) (BT.node (boot_o_9 P) BT.nil BT.nil) (BT.node b13 BT.nil BT.nil))) (BT.node (boot_o_2 P) (BT.node (boot_o_4 P) (BT.node (boot_o_8 P) BT.nil BT.nil) (BT.node b12 BT.nil BT.nil)) (BT.node (boot_o_6 P) (BT.node (boot_o_10 P) BT.nil BT.nil) (BT.node b14 BT.nil BT.nil)))
noncomputable def SB (w : World) (os : OsState) : SharedT := { tree := treeB w.params, n := 15, life := { }, gens := #[], drawn := { }, toks := 187, os := os }
noncomputable abbrev pos0 : Pos := ⟨0, 0, 0, 0⟩
noncomputable abbrev cdT : Code := Code.body CBody envT
noncomputable abbrev S0T (w : World) (os : OsState) : Shared := ⟨boot_heap w.params, #[], boot_drawn, boot_toks, os⟩
theorem boot_ok : ∀ w : World, (fencedOpening treeTable PGM w 8252).map (fun s => (s.heap, s.gens, s.drawn, s.toks)) = some (boot_heap w.params, Array.mk [], boot_drawn, boot_toks) :=
  boot_open (by kernel_rfl) (by kernel_rfl) (fun s => by kernel_rfl)
theorem size_ok (w : World) : ((boot_heap w.params).isNs mainGlobals && (#[] : Array GenState).size == 0, (boot_heap w.params).objs.size, (boot_heap w.params).nsMap mainGlobals (Str.ofString "__annotations__")) = (true, 11, some (Value.ref 6)) := by
  rw [PySem.W.Fast.te8920871248978507458]
  kernel_rfl
theorem pre_ok (w : World) (os : OsState) : topGo treeTable PGM w 11 (some (.ref 6)) 12 (S0T w os) (topStub PGM) = some (⟨absHeap (treeB w.params) 15 {}, #[], {}, 187, os⟩, ⟨denote treeTable cdT, cdT, pos0, [topFrame pos0]⟩) := by
  rw [PySem.W.Fast.te15667345088766844465, PySem.W.Fast.te14364793385576792824, PySem.W.Fast.te11892475500146522536]
  kernel_rfl
theorem block_ok (w : World) (os : OsState) : segRun treeTable PGM w 11 (some (.ref 6)) 1 1 ⟨absHeap (treeB w.params) 15 {}, #[], {}, 187, os⟩ (blockOf CBody envT cdT pos0 [topFrame pos0]) = some (.next, (SB w os).abs, cdT, pos0) := by
  rw [PySem.W.Fast.te14374325043358763698, PySem.W.Fast.te14364793385576792824]
  kernel_rfl
theorem fin_ok (w : World) (F : SharedT) (c : Code) (p : Pos) : topRun treeTable PGM w 11 (some (.ref 6)) 2 F.abs ⟨doneF .next, c, p, [topFrame pos0]⟩ = some F.abs := by
  kernel_rfl
theorem run_top (w : World) (os : OsState) {F : SharedT} {p' : Pos} (h : segRunT treeTable PGM w 11 (some (.ref 6)) 1 4100 (SB w os) (piecesOf CBody envT cdT pos0 [topFrame pos0]) = some (.next, F, cdT, p')) :
    topRun treeTable PGM w 11 (some (.ref 6)) (12 + (1 + (4100 + 2))) (S0T w os) (topStub PGM) = some F.abs := by
  have k := piece_app (rest := []) (env := envT) (segRun_of h) (piece_nil (fin_ok w F cdT p'))
  rw [List.append_nil] at k
  exact go_top (pre_ok w os) (piece_block (block_ok w os) k)
noncomputable abbrev hookK : Hook := kHook hd.heap_39 adK (fun _ => by kernel_rfl)
noncomputable def mrg : Nat → Frag → Frag → Frag
  | 0, _, K => K
  | _ + 1, [], K => K
  | _ + 1, e :: E, [] => e :: E
  | n + 1, e :: E, k :: K => match Nat.ble e.1 k.1 with
    | true => e :: mrg n E (k :: K)
    | false => k :: mrg n (e :: E) K
noncomputable def kE (P : Params) : Frag := [(0, boot_o_0 P), (1, boot_o_1 P), (4, boot_o_4 P), (5, boot_o_5 P), (6, boot_o_6 P), (7, boot_o_7 P), (8, boot_o_8 P), (9, boot_o_9 P), (10, boot_o_10 P)] ++ [16, 48, 62, 69, 79, 86, 412, 419, 426, 433, 440, 447, 454, 461, 468, 475, 482, 489, 496, 503, 510, 517, 537, 544, 551, 561, 571, 576, 583, 590, 597, 602].map fun a => (a, b12)
noncomputable def kM (P : Params) : Frag := mrg 600 (kE P) (hd.heap_39 P)
noncomputable def adM : List Addr := 0 :: 1 :: 2 :: 3 :: 4 :: 5 :: 6 :: 7 :: 8 :: 9 :: 10 :: 15 :: 16 :: 17 :: 18 :: 20 :: 21 :: 22 :: 29 :: 30 :: 31 :: 32 :: 35 :: 42 :: 43 :: 44 :: 47 :: 48 :: 49 :: 50 :: 52 :: 53 :: 61 :: 62 :: 63 :: 64 :: 66 :: 67 :: 68 :: 69 :: 70 :: 71 :: 73 :: 74 :: 75 :: 76 :: 77 :: 78 :: 79 :: 80 :: 81 :: 83 :: 84 :: 85 :: 86 :: 87 :: 88 :: 90 :: 91 :: 92 :: 93 :: 94 :: 95 :: 96 :: 99 :: 106 :: 107 :: 108 :: 109 :: 110 :: 111 :: 112 :: 113 :: 114 :: 115 :: 116 :: 117 :: 118 :: 119 :: 120 :: 121 :: 122 :: 123 :: 124 :: 125 :: 126 :: 127 :: 128 :: 129 :: 130 :: 131 :: 132 :: 133 :: 134 :: 135 :: 136 :: 137 :: 138 :: 139 :: 140 :: 141 :: 142 :: 143 :: 144 :: 145 :: 146 :: 147 :: 148 :: 149 :: 150 :: 151 :: 152 :: 153 :: 154 :: 155 :: 156 :: 157 :: 158 :: 159 :: 160 :: 161 :: 162 :: 163 :: 164 :: 165 :: 166 :: 167 :: 168 :: 169 :: 170 :: 171 :: 172 :: 173 :: 174 :: 175 :: 176 :: 177 :: 178 :: 179 :: 180 :: 181 :: 182 :: 183 :: 184 :: 185 :: 186 :: 187 :: 188 :: 189 :: 190 :: 191 :: 192 :: 193 :: 194 :: 195 :: 196 :: 197 :: 198 :: 199 :: 200 :: 201 :: 202 :: 203 :: 204 :: 205 :: 206 :: 207 :: 208 :: 209 :: 210 :: 211 :: 212 :: 213 :: 214 :: 215 :: 216 :: 217 :: 218 :: 219 :: 220 :: 221 :: 222 :: 223 :: 224 :: 225 :: 226 :: 227 :: 228 :: 229 :: 230 :: 231 :: 232 :: 233 :: 234 :: 235 :: 236 :: 237 :: 238 :: 239 :: 240 :: 241 :: 242 :: 243 :: 244 :: 245 :: 246 :: 247 :: 248 :: 249 :: 250 :: 251 :: 252 :: 253 :: 254 :: 255 :: 256 :: 257 :: 258 :: 259 :: 260 :: 261 :: 262 :: 263 :: 264 :: 265 :: 266 :: 267 :: 268 :: 269 :: 270 :: 271 :: 272 :: 273 :: 274 :: 275 :: 276 :: 277 :: 278 :: 279 :: 280 :: 281 :: 282 :: 283 :: 284 :: 285 :: 286 :: 287 :: 288 :: 289 :: 290 :: 291 :: 292 :: 293 :: 294 :: 295 :: 296 :: 297 :: 298 :: 299 :: 300 :: 301 :: 302 :: 303 :: 304 :: 305 :: 306 :: 307 :: 308 :: 309 :: 310 :: 311 :: 312 :: 313 :: 314 :: 315 :: 316 :: 317 :: 318 :: 319 :: 320 :: 321 :: 322 :: 323 :: 324 :: 325 :: 326 :: 327 :: 328 :: 329 :: 330 :: 331 :: 332 :: 333 :: 334 :: 335 :: 336 :: 337 :: 338 :: 339 :: 340 :: 341 :: 342 :: 343 :: 344 :: 345 :: 346 :: 347 :: 348 :: 349 :: 350 :: 351 :: 352 :: 353 :: 354 :: 355 :: 356 :: 357 :: 358 :: 359 :: 360 :: 361 :: 362 :: 369 :: 370 :: 371 :: 374 :: 381 :: 382 :: 383 :: 386 :: 393 :: 394 :: 395 :: 398 :: 405 :: 406 :: 407 :: 410 :: 411 :: 412 :: 413 :: 414 :: 416 :: 417 :: 418 :: 419 :: 420 :: 421 :: 423 :: 424 :: 425 :: 426 :: 427 :: 428 :: 430 :: 431 :: 432 :: 433 :: 434 :: 435 :: 437 :: 438 :: 439 :: 440 :: 441 :: 442 :: 444 :: 445 :: 446 :: 447 :: 448 :: 449 :: 451 :: 452 :: 453 :: 454 :: 455 :: 456 :: 458 :: 459 :: 460 :: 461 :: 462 :: 463 :: 465 :: 466 :: 467 :: 468 :: 469 :: 470 :: 472 :: 473 :: 474 :: 475 :: 476 :: 477 :: 479 :: 480 :: 481 :: 482 :: 483 :: 484 :: 486 :: 487 :: 488 :: 489 :: 490 :: 491 :: 493 :: 494 :: 495 :: 496 :: 497 :: 498 :: 500 :: 501 :: 502 :: 503 :: 504 :: 505 :: 507 :: 508 :: 509 :: 510 :: 511 :: 512 :: 514 :: 515 :: 516 :: 517 :: 518 :: 519 :: 521 :: 522 :: 523 :: 524 :: 525 :: 528 :: 535 :: 536 :: 537 :: 538 :: 539 :: 541 :: 542 :: 543 :: 544 :: 545 :: 546 :: 548 :: 549 :: 550 :: 551 :: 553 :: 554 :: 555 :: 556 :: 557 :: 560 :: 561 :: 562 :: 563 :: 565 :: 566 :: 567 :: 568 :: 569 :: 570 :: 571 :: 573 :: 574 :: 575 :: 576 :: 577 :: 578 :: 580 :: 581 :: 582 :: 583 :: 584 :: 585 :: 587 :: 588 :: 589 :: 590 :: 591 :: 592 :: 594 :: 595 :: 596 :: 597 :: 599 :: 600 :: 601 :: 602 :: 603 :: 604 :: 606 :: 607 :: []
theorem run_ok (w : World) (os : OsState) : (segRunT treeTable PGM w 11 (some (.ref 6)) 1 4100 (SB w os) (piecesOf CBody envT cdT pos0 [topFrame pos0])).map (fun r => (r.1, r.2.2.1, r.2.1.n, r.2.1.life, r.2.1.gens, r.2.1.drawn, r.2.1.toks, r.2.1.os, adM.map r.2.1.tree.get)) =
    some (.next, cdT, 608, {}, #[], {}, 936, os, (kM w.params).map fun p => some p.2) := by
  rw [PySem.W.Fast.te10110043849684766642, PySem.W.Fast.te14364793385576792824]
  kernel_rfl
noncomputable def heapL (g : Nat → Obj) : Nat → Nat → Frag → List Obj
  | _, 0, _ => []
  | i, n + 1, [] => g i :: heapL g (i + 1) n []
  | i, n + 1, p :: K => match Nat.beq p.1 i with
    | true => p.2 :: heapL g (i + 1) n K
    | false => g i :: heapL g (i + 1) n (p :: K)
theorem heapL_eq (g : Nat → Obj) : ∀ (n i : Nat) (K : Frag), (∀ p ∈ K, g p.1 = p.2) → heapL g i n K = (List.range' i n).map g
  | 0, _, _, _ => rfl
  | n + 1, i, [], h => by
    rw [List.range'_succ, List.map_cons, ← heapL_eq g n (i + 1) [] h]; rfl
  | n + 1, i, p :: K, h => by
    rw [List.range'_succ, List.map_cons]
    show (match Nat.beq p.1 i with | true => p.2 :: heapL g (i + 1) n K | false => g i :: heapL g (i + 1) n (p :: K)) = _
    cases e : Nat.beq p.1 i with
    | true =>
      have e' := Nat.eq_of_beq_eq_true e
      (try dsimp only)
      rw [heapL_eq g n (i + 1) K (fun q hq => h q (.tail _ hq)), ← h p (.head _), e']
    | false =>
      (try dsimp only)
      rw [heapL_eq g n (i + 1) (p :: K) h]
noncomputable def heapF (g : Nat → Obj) (P : Params) : Heap := ⟨(heapL g 0 608 (kM P)).toArray, {}⟩
noncomputable abbrev sF (g : Nat → Obj) (w : World) (os : OsState) : Shared := ⟨heapF g w.params, #[], {}, 936, os⟩
theorem adM_eq (P : Params) : adM = (kM P).map (·.1) := by kernel_rfl
theorem abs_eq {w : World} {os : OsState} {F : SharedT} (h1 : F.n = 608) (h2 : F.life = {}) (h3 : F.gens = #[]) (h4 : F.drawn = {}) (h5 : F.toks = 936) (h6 : F.os = os) (h7 : adM.map F.tree.get = (kM w.params).map fun p => some p.2) : F.abs = sF (fun i => (F.tree.get i).getD default) w os := by
  obtain ⟨t, n, life, gens, drawn, toks, os'⟩ := F
  dsimp only at h1 h2 h3 h4 h5 h6 h7
  subst h1 h2 h3 h4 h5 h6
  rw [adM_eq w.params, List.map_map, List.map_inj_left] at h7
  show (⟨absHeap t 608 {}, #[], {}, 936, os'⟩ : Shared) = ⟨heapF _ w.params, #[], {}, 936, os'⟩
  have e : absHeap t 608 {} = heapF (fun i => (t.get i).getD default) w.params := by
    unfold absHeap heapF BT.list
    rw [heapL_eq _ 608 0 _ (fun p hp => by have := h7 p hp; simp only [Function.comp] at this; rw [this]; rfl), List.range_eq_range']
  rw [e]
noncomputable abbrev LS0 : List Str := [Str.ofString "BitParser", Str.ofString "CCITTG4Parser", Str.ofString "CCITTFaxDecoder", Str.ofString "_law_runs"]
noncomputable abbrev XT (s : Shared) : Bool := xlAt hd.view_39 [] s && recOk (RowW.records PySem.Challenge.rw_ao0017_01.row.toRowW) s
def srt : Nat → Nat → List Nat → Bool
  | _, _, [] => true
  | lo, hi, a :: as => Nat.ble lo a && Nat.blt a hi && srt (a + 1) hi as
theorem srt_up {lo hi : Nat} : ∀ {as : List Nat}, srt lo hi as = true → ∀ a ∈ as, lo ≤ a ∧ a < hi := by
  intro as
  induction as generalizing lo with
  | nil => intro _ a h; cases h
  | cons b as ih =>
    intro h a ha
    rw [srt, Bool.and_eq_true, Bool.and_eq_true] at h
    have h1 := Nat.le_of_ble_eq_true h.1.1
    have h2 := Nat.le_of_ble_eq_true h.1.2
    rcases List.mem_cons.mp ha with rfl | q
    · exact ⟨h1, h2⟩
    · have := ih h.2 a q
      exact ⟨Nat.le_trans h1 (Nat.le_of_succ_le this.1), this.2⟩
theorem heapL_get (g : Nat → Obj) : ∀ (n i : Nat) (K : Frag), srt i (i + n) (K.map (·.1)) = true → ∀ p ∈ K, (heapL g i n K)[p.1 - i]? = some p.2
  | 0, i, K, h, p, hp => absurd (srt_up h p.1 (List.mem_map_of_mem hp)) fun q => Nat.lt_irrefl _ (Nat.lt_of_le_of_lt q.1 q.2)
  | n + 1, i, [], _, p, hp => nomatch hp
  | n + 1, i, k :: K, h, p, hp => by
    have hu := srt_up h p.1 (List.mem_map_of_mem hp)
    have h' := h
    rw [List.map_cons, srt, Bool.and_eq_true, Bool.and_eq_true] at h'
    show (match Nat.beq k.1 i with | true => k.2 :: heapL g (i + 1) n K | false => g i :: heapL g (i + 1) n (k :: K))[p.1 - i]? = _
    have step : i + 1 ≤ p.1 → ∀ (o : Obj) (l : List Obj), l[p.1 - (i + 1)]? = some p.2 → (o :: l)[p.1 - i]? = some p.2 := fun hi o l e => by
      rw [show p.1 - i = p.1 - (i + 1) + 1 from (Nat.sub_add_cancel (Nat.sub_pos_of_lt hi)).symm, List.getElem?_cons_succ]; exact e
    cases e : Nat.beq k.1 i with
    | true =>
      have e' := Nat.eq_of_beq_eq_true e
      have hs : srt (i + 1) (i + 1 + n) (K.map (·.1)) = true := by
        have := h'.2; rw [e'] at this; rw [Nat.add_right_comm]; exact this
      rcases List.mem_cons.mp hp with rfl | q
      · show (p.2 :: _)[p.1 - i]? = _
        rw [e', Nat.sub_self]; rfl
      · exact step (srt_up hs p.1 (List.mem_map_of_mem q)).1 _ _ (heapL_get g n (i + 1) K hs p q)
    | false =>
      have hne : k.1 ≠ i := fun q => by rw [q, Nat.beq_refl] at e; cases e
      have hlt : i + 1 ≤ k.1 := Nat.lt_of_le_of_ne (Nat.le_of_ble_eq_true h'.1.1) (Ne.symm hne)
      have hs : srt (i + 1) (i + 1 + n) ((k :: K).map (·.1)) = true := by
        rw [List.map_cons, srt, Bool.and_eq_true, Bool.and_eq_true, Nat.add_right_comm]
        exact ⟨⟨Nat.ble_eq_true_of_le hlt, h'.1.2⟩, h'.2⟩
      exact step (srt_up hs p.1 (List.mem_map_of_mem hp)).1 _ _ (heapL_get g n (i + 1) (k :: K) hs p hp)
theorem mrg_mem : ∀ (n : Nat) (E K : Frag) {p : Addr × Obj}, p ∈ K → p ∈ mrg n E K
  | 0, _, _, _, h => h
  | _ + 1, [], _, _, h => h
  | _ + 1, _ :: _, [], _, h => nomatch h
  | n + 1, e :: E, k :: K, p, h => by
    show p ∈ (match Nat.ble e.1 k.1 with | true => e :: mrg n E (k :: K) | false => k :: mrg n (e :: E) K)
    cases Nat.ble e.1 k.1 with
    | true => exact .tail _ (mrg_mem n E (k :: K) h)
    | false =>
      rcases List.mem_cons.mp h with rfl | q
      · exact .head _
      · exact .tail _ (mrg_mem n (e :: E) K q)
theorem live_39 {P : Params} : ((hd.heap_39 P).all fun p => match p.2.data with | .freed => false | _ => true) = true := by kernel_rfl
theorem look_a (g : Nat → Obj) (w : World) (os : OsState) : hookK.obs (sF g w os) = hookK.val w := by
  have hs : srt 0 608 ((kM w.params).map (·.1)) = true := by rw [← adM_eq w.params]; kernel_rfl
  show adK.map (heapF g w.params).get? = (hd.heap_39 w.params).map fun p => some p.2
  rw [show adK = (hd.heap_39 w.params).map (·.1) by kernel_rfl, List.map_map]
  refine List.map_congr_left fun p hp => ?_
  show (heapF g w.params).get? p.1 = _
  have this : (heapL g 0 608 (kM w.params))[p.1]? = some p.2 := heapL_get g 608 0 (kM w.params) hs p (mrg_mem _ _ _ hp)
  have hd' := List.all_eq_true.mp live_39 p hp
  show (match (heapL g 0 608 (kM w.params)).toArray[p.1]? with | some ⟨_, _, .freed, _⟩ => none | o => o) = some p.2
  rw [List.getElem?_toArray, this]
  obtain ⟨a, c, dd, data, x⟩ := p
  cases data <;> first | rfl | cases hd'
theorem look_b (g : Nat → Obj) (w : World) (os : OsState) : (staticsOk (importedModules PGM.main.body) (boot_heap w.params) (sF g w os).heap && namesBound PGM (sF g w os).heap && gensDone (sF g w os) && laidKept (boot_heap w.params) (sF g w os).heap) = true := by
  kernel_rfl
theorem look_c (g : Nat → Obj) (w : World) (os : OsState) : openSeen hd.view_39 LS0 (importedModules PGM.main.body) XT true (sF g w os) = openGood hd.view_39 LS0 := by
  rw [PySem.W.Fast.te4187177175401517315]
  kernel_rfl
theorem left_gen {p q : Program} {loose : List Str} {Xt : Shared → Bool} {α : Type} {Yf : Shared → α} {Ya : World → α} {N : Nat} {H₀ : Params → Heap} {gs₀ : Array GenState} {d₀ : Drawn} {k₀ m₀ : Nat} {ann : Option Value} {M : Nat}
    (open_ : ∀ w : World, (fencedOpening treeTable p w N).map (fun s => (s.heap, s.gens, s.drawn, s.toks)) = some (H₀ w.params, gs₀, d₀, k₀))
    (size : ∀ w : World, ((H₀ w.params).isNs mainGlobals && gs₀.size == 0, (H₀ w.params).objs.size, (H₀ w.params).nsMap mainGlobals (Str.ofString "__annotations__")) = (true, m₀, ann))
    (run : ∀ (w : World) (os : OsState), ∃ s₁ : Shared, topRun treeTable p w m₀ ann M ⟨H₀ w.params, gs₀, d₀, k₀, os⟩ (topStub p) = some s₁ ∧ (staticsOk (importedModules p.main.body) (H₀ w.params) s₁.heap && namesBound p s₁.heap && gensDone s₁ && laidKept (H₀ w.params) s₁.heap) = true ∧ openSeen q loose (importedModules p.main.body) Xt true s₁ = openGood q loose ∧ Yf s₁ = Ya w)
    (le : Nat.ble M N = true) : LeftO p q loose Xt Yf Ya N true := fun w => by
  obtain ⟨⟨h, gs, d, k, os⟩, e, e'⟩ := Option.map_eq_some_iff.mp (open_ w)
  obtain ⟨rfl, rfl, rfl, rfl⟩ : h = H₀ w.params ∧ gs = gs₀ ∧ d = d₀ ∧ k = k₀ := by simpa using e'
  obtain ⟨z1, z2, z3⟩ : _ ∧ _ ∧ _ := by simpa only [Prod.mk.injEq] using size w
  obtain ⟨s₁, r, l1, l2, l3⟩ := run w os
  have r := topRun_mono (N - M) _ _ _ _ r
  rw [show M + (N - M) = N by have := Nat.le_of_ble_eq_true le; omega] at r
  have t : topFrom treeTable p w N ⟨H₀ w.params, gs, d, k, os⟩ = some s₁ := by
    unfold topFrom
    (try dsimp only)
    rw [z1, z2, z3, r]
    show (match staticsOk (importedModules p.main.body) (H₀ w.params) s₁.heap && namesBound p s₁.heap && gensDone s₁ && laidKept (H₀ w.params) s₁.heap with | true => _ | false => _) = _
    rw [l1]
  unfold openEnds
  rw [e]
  show (topFrom treeTable p w N _).map _ = _
  rw [t]
  show some (openSeen q loose (importedModules p.main.body) Xt true s₁, Yf s₁) = _
  rw [l2, l3]
theorem run_all {R : Option (Flow × SharedT × Code × Pos)} {w : World} {os : OsState} {c₀ : Code} {k : Flow × SharedT × Code × Pos → Prop}
    (h : R.map (fun r => (r.1, r.2.2.1, r.2.1.n, r.2.1.life, r.2.1.gens, r.2.1.drawn, r.2.1.toks, r.2.1.os, adM.map r.2.1.tree.get)) = some (.next, c₀, 608, {}, #[], {}, 936, os, (kM w.params).map fun p => some p.2)) :
    ∃ (F : SharedT) (p : Pos) (g : Nat → Obj), R = some (.next, F, c₀, p) ∧ F.abs = sF g w os := by
  obtain ⟨⟨f, F, c, p'⟩, eF, eL⟩ := Option.map_eq_some_iff.mp h
  simp only [Prod.mk.injEq] at eL
  obtain ⟨l0, l1, n1, n2, n3, n4, n5, n6, n7⟩ := eL
  subst l0 l1
  exact ⟨F, p', _, eF, abs_eq n1 n2 n3 n4 n5 n6 n7⟩
theorem left_ok : LeftO PGM hd.view_39 LS0 XT hookK.obs hookK.val 8252 true :=
  left_gen boot_ok size_ok (fun w os => by
    obtain ⟨F, p, g, h1, h2⟩ := run_all (k := fun _ => True) (run_ok w os)
    exact ⟨sF g w os, (run_top w os h1).trans (congrArg some h2), look_b g w os, look_c g w os, look_a g w os⟩) (M := 12 + (1 + (4100 + 2))) (by decide)
theorem said_ok : PySem.Challenge.rw_ao0017_01.wellSaid = true := by
  rw [PySem.W.Fast.te9446332074065402090]
  kernel_rfl
theorem hd (walk : WalkO hd.view_39 [Str.ofString "BitParser", Str.ofString "CCITTG4Parser", Str.ofString "CCITTFaxDecoder", Str.ofString "_law_runs"] (XL hd.view_39 []) hookK.says PySem.Challenge.rw_ao0017_01.row.toRowW { name := Str.ofString "law", params := Aq_law, body := Bq_law, scope := Cq_law, pos := ⟨303, 0, 325, 15⟩ } [] fun f vs => PySem.call f vs) : PySem.Challenge.rw_ao0017_01.Holds := by
  w_on
  refine holds_law said_ok fun said => ?_
  refine holds_open (q := hd.view_39) (loose := LS0) (Xt := XT) (XP := XL hd.view_39 []) (Yf := hookK.obs) (Ya := hookK.val) (YP := hookK.says) (N := 8252) left_ok hookK.of hookK.keeps (fun s e => xl_of s (Bool.and_eq_true_iff.mp e).1) XL.keeps (by rfl) (by rfl) (by rfl) (fun s e => recFacts_of (Bool.and_eq_true_iff.mp e).2) (by rfl) said (by decide +kernel) ⟨rfl, rfl, rfl, rfl, rfl, by decide +kernel⟩ ?hw ?hc
  case hw => w_witness2
  case hc => exact walk

example : True := by w_top off; trivial
/-- small facts of whole numbers, each by one step: what lia writes for them is long -/
theorem tnL {k : Int} {n : Nat} (h1 : 1 ≤ n) (h : k < n) : k.toNat < n := (Int.toNat_lt' h1).2 h
theorem tnL1 {k : Int} {n : Nat} (h1 : 1 ≤ n) (h : k < n) : (k - 1).toNat < n := (Int.toNat_lt' h1).2 (Int.lt_trans (Int.sub_lt_self k Int.one_pos) h)
theorem tn0 {k : Int} {n : Nat} (h0 : 0 ≤ k) (h : k < n) : k.toNat < n := (Int.toNat_lt h0).2 h
theorem tnD {a x y : Int} (h : x < y) (hx : x < a) : (a - y).toNat < (a - x).toNat := (Int.toNat_lt_toNat (Int.sub_pos_of_lt hx)).2 (Int.sub_lt_sub_left h a)
theorem tnD1 {a x : Int} (hx : x < a) : (a - (x + 1)).toNat < (a - x).toNat := tnD (Int.lt_add_one_of_le (Int.le_refl x)) hx
theorem lt_of_run {a b k : Int} {n : Nat} (e : k = a + n) (h : n < (b - a).toNat) : k < b := e ▸ Int.add_lt_of_lt_sub_left (Int.lt_toNat.1 h)
theorem le_of_run {a k : Int} {n : Nat} (e : k = a + n) : a ≤ k := e ▸ Int.le_add_of_nonneg_right (Int.natCast_nonneg n)
theorem run_lt {a k : Int} {n : Nat} (e : k = a + n) (h : ((n + 1 : Nat) : Int) + a ≤ k) : False := by omega
theorem flip_of {a c : Int} (h : a = c) : 1 - a = 1 - c := h ▸ rfl
theorem flip_eq {a c : Int} (h : 1 - a = 1 - c) : a = c := by rw [← Int.sub_sub_self 1 a, h, Int.sub_sub_self]
theorem flip_ne {a c : Int} (h : a ≠ c) : 1 - a ≠ 1 - c := fun e => h (flip_eq e)
theorem flip01 {c : Int} (h : c = 0 ∨ c = 1) : 1 - c = 0 ∨ 1 - c = 1 := by
  rcases h with rfl | rfl
  · exact .inr rfl
  · exact .inl rfl
theorem other_eq {a c : Int} (ha : a = 0 ∨ a = 1) (hc : c = 0 ∨ c = 1) (h : a ≠ 1 - c) : a = c := by
  rcases ha with rfl | rfl <;> rcases hc with rfl | rfl <;> first | rfl | exact absurd rfl h
theorem other_ne {a c : Int} (h : a = 1 - c) : a ≠ c := fun e => by rw [e] at h; omega
theorem other_of {a c : Int} (ha : a = 0 ∨ a = 1) (hc : c = 0 ∨ c = 1) (h : a ≠ c) : a = 1 - c := by
  rcases ha with rfl | rfl <;> rcases hc with rfl | rfl <;> first | rfl | exact absurd rfl h
theorem lt63 {k : Int} (h : k ≤ 1000000) : k < 2 ^ 63 := Int.lt_of_le_of_lt h (by decide)
theorem run_in {a k : Int} {i : Nat} (h0 : 0 ≤ a) (h : a ≤ i) (hi : (i : Int) < k) : a.toNat ≤ i ∧ i < a.toNat + (k - a).toNat := by
  obtain ⟨a, rfl⟩ := Int.eq_ofNat_of_zero_le h0
  obtain ⟨k, rfl⟩ := Int.eq_ofNat_of_zero_le (Int.le_of_lt (Int.lt_of_le_of_lt (Int.natCast_nonneg i) hi))
  have h' := Int.ofNat_le.1 h
  have hi' := Int.ofNat_lt.1 hi
  rw [Int.toNat_natCast, Int.toNat_sub, Nat.add_sub_cancel' (Nat.le_trans h' (Nat.le_of_lt hi'))]
  exact ⟨h', hi'⟩
theorem lt_ne {a b : Int} (h : a ≤ b) (n : a ≠ b) : a < b := Int.lt_iff_le_and_ne.2 ⟨h, n⟩
theorem one_le {n : Nat} {w : Int} (e : (n : Int) = w) (h : 1 ≤ w) : 1 ≤ n := Int.ofNat_le.1 (by rw [e]; exact h)
theorem add_sub_to {a b : Int} : a + (b - a) = b := by omega
theorem add_toNat {a b : Int} (h : a ≤ b) : a + ((b - a).toNat : Int) = b := by rw [Int.toNat_of_nonneg (Int.sub_nonneg_of_le h), add_sub_to]
theorem mod8_ne {n k N : Nat} (hN : N % 8 = 0) (hn : n + (k + 1) = N) (hl : N < n + 8) : n % 8 ≠ 0 := by
  subst hn
  have hk : k + 1 < 8 := Nat.lt_of_add_lt_add_left hl
  intro q
  rw [Nat.add_mod, q, Nat.zero_add, Nat.mod_mod, Nat.mod_eq_of_lt hk] at hN
  cases hN
theorem in_l {j n x b : Nat} (g : j < n + x) : j < n + (x + b) := Nat.lt_of_lt_of_le g (Nat.add_le_add_left (Nat.le_add_right _ _) n)
theorem in_r {j n x b : Nat} (g : j < n + x + b) : j < n + (x + b) := Nat.add_assoc n x b ▸ g
theorem lo_n {j n x : Nat} (g : n + x ≤ j) : n ≤ j := Nat.le_trans (Nat.le_add_right n x) g
theorem sumN {n a b N : Nat} (h : n + (a + b) = N) : n + a + b = N := (Nat.add_assoc n a b).trans h
theorem upto12 {n : Int} (h1 : 0 ≤ n) (h2 : n ≤ 12) : n = 0 ∨ n = 1 ∨ n = 2 ∨ n = 3 ∨ n = 4 ∨ n = 5 ∨ n = 6 ∨ n = 7 ∨ n = 8 ∨ n = 9 ∨ n = 10 ∨ n = 11 ∨ n = 12 := by
  obtain ⟨m, rfl⟩ := Int.eq_ofNat_of_zero_le h1
  exact (by decide +kernel : ∀ m : Nat, m < 13 → (m : Int) = 0 ∨ (m : Int) = 1 ∨ (m : Int) = 2 ∨ (m : Int) = 3 ∨ (m : Int) = 4 ∨ (m : Int) = 5 ∨ (m : Int) = 6 ∨ (m : Int) = 7 ∨ (m : Int) = 8 ∨ (m : Int) = 9 ∨ (m : Int) = 10 ∨ (m : Int) = 11 ∨ (m : Int) = 12) m (Int.ofNat_lt.1 (Int.lt_of_le_of_lt h2 (by decide)))
theorem pad8 (m : Nat) : (m + (8 - m % 8) % 8) % 8 = 0 := by
  rw [← Nat.mod_add_mod]
  exact (by decide : ∀ r, r < 8 → (r + (8 - r) % 8) % 8 = 0) (m % 8) (Nat.mod_lt _ (by decide))
theorem le_up8 (n : Nat) : n ≤ 8 * ((n + 7) / 8) := Nat.le_of_add_le_add_right (b := 7) (Nat.le_trans (Nat.le_of_eq (Nat.div_add_mod (n + 7) 8).symm) (Nat.add_le_add_left (Nat.le_of_lt_succ (Nat.mod_lt _ (by decide))) _))
theorem up8_le2 {n : Nat} (h : n ≤ 12) : (n + 7) / 8 ≤ 2 := Nat.le_trans (Nat.div_le_div_right (Nat.add_le_add_right h 7)) (by decide)
theorem le12 {n : Nat} {w : Int} (e : (n : Int) = w) (h : w ≤ 12) : n ≤ 12 := Int.ofNat_le.1 (by rw [e]; exact h)
theorem size_step {a p r n : Nat} (hp : p ≤ 2) (h : a + 2 * (r + 1) ≤ n) : a + p + 2 * r ≤ n :=
  Nat.le_trans (by rw [Nat.add_assoc, Nat.add_comm p]; exact Nat.add_le_add_left (Nat.add_le_add_left hp _) a) h
theorem toNat_addN {a : Int} {n : Nat} (h : 0 ≤ a) : a.toNat + n = (a + n).toNat := by
  obtain ⟨a, rfl⟩ := Int.eq_ofNat_of_zero_le h
  rw [Int.toNat_natCast, ← Int.natCast_add, Int.toNat_natCast]
theorem pos_in {cp wd : Int} (h0 : 1 ≤ wd) (h : cp < wd) : 0 ≤ (if cp > 0 then cp else 0) ∧ (if cp > 0 then cp else 0) < wd ∧ cp ≤ (if cp > 0 then cp else 0) := by
  split
  · exact ⟨Int.le_of_lt ‹_›, h, Int.le_refl _⟩
  · exact ⟨Int.le_refl _, Int.lt_of_lt_of_le Int.one_pos h0, Int.not_lt.1 ‹_›⟩
theorem clamp_in {a wd : Int} (h : 0 ≤ wd) : 0 ≤ (if (if a < wd then a else wd) > 0 then (if a < wd then a else wd) else 0) ∧ (if (if a < wd then a else wd) > 0 then (if a < wd then a else wd) else 0) ≤ wd := by
  have hm : (if a < wd then a else wd) ≤ wd := by
    split
    · exact Int.le_of_lt ‹_›
    · exact Int.le_refl _
  generalize (if a < wd then a else wd) = b at *
  split
  · exact ⟨Int.le_of_lt ‹_›, hm⟩
  · exact ⟨Int.le_refl _, h⟩
theorem pass_len {x cp : Int} (h : -1 ≤ cp) : (x - cp).toNat - (if cp < 0 then 1 else 0) = (x - (if cp > 0 then cp else 0)).toNat := by
  by_cases hc : cp < 0
  · rw [Int.le_antisymm (Int.le_sub_one_of_lt hc) h, if_pos (by decide), if_neg (by decide), ← Int.pred_toNat]
    show (x - -1 - 1).toNat = (x - 0).toNat
    rw [Int.sub_zero, Int.sub_neg, Int.add_sub_cancel]
  · rw [if_neg hc, Nat.sub_zero]
    split
    · rfl
    · rw [Int.le_antisymm (Int.not_lt.1 ‹_›) (Int.not_lt.1 hc)]
theorem w63 {k wd : Int} (hw : wd ≤ 12) (h : k ≤ wd) : k < 2 ^ 63 := Int.lt_of_le_of_lt (Int.le_trans h hw) (by decide)
theorem w62 {k wd : Int} (hw : wd ≤ 12) (h : k ≤ wd) : k < 2 ^ 62 := Int.lt_of_le_of_lt (Int.le_trans h hw) (by decide)
theorem n62 {k : Int} (h : -1 ≤ k) : -(2 ^ 62) ≤ k := Int.le_trans (by decide) h
theorem n63 {k : Int} (h : -1 ≤ k) : -(2 ^ 63) ≤ k := Int.le_trans (by decide) h
theorem n1_of {k : Int} (h : 0 ≤ k) : -1 ≤ k := Int.le_trans (by decide) h
theorem len62 {n : Nat} {w : Int} (e : (n : Int) = w) (h : w ≤ 12) : n < 2 ^ 62 := Nat.lt_of_le_of_lt (le12 e h) (by decide)
theorem fdiv8 (n : Nat) : ((n : Int).fdiv 8).toNat = n / 8 := by cases n <;> rfl
theorem fmod8 (n : Nat) : ((n : Int).fmod 8).toNat = n % 8 := by cases n <;> rfl
theorem cp1_nn {cp x : Int} (h : -1 ≤ cp) (h1 : cp + 1 ≤ x) : 0 ≤ x := Int.le_trans (Int.add_le_add_right h 1) h1
theorem dn {a b c n : Nat} (h : a + b < n) (hb : c ≤ b) : a + c < n := Nat.lt_of_le_of_lt (Nat.add_le_add_left hb a) h
theorem len_up {x k : Nat} {p b : Int} (h : (x : Int) ≤ 1000 * (p + 1)) (hk : k ≤ 1000) (hb : p < b) : ((x + k : Nat) : Int) ≤ 1000 * (b + 1) :=
  Int.le_trans (Int.add_le_add h (Int.ofNat_le.2 hk)) (Int.le_trans (Int.le_of_eq (by rw [Int.mul_add 1000 (p + 1) 1]; rfl)) (Int.mul_le_mul_of_nonneg_left (Int.add_le_add_right hb 1) (by decide)))
theorem len_to {x : Nat} {p b : Int} (h : (x : Int) ≤ 1000 * (p + 1)) (hb : p ≤ b) : (x : Int) ≤ 1000 * (b + 1) :=
  Int.le_trans h (Int.mul_le_mul_of_nonneg_left (Int.add_le_add_right hb 1) (by decide))
theorem abs3 {a : Int} (h : (if a < 0 then -a else a) ≤ 3) : -3 ≤ a ∧ a ≤ 3 := by
  split at h <;> exact ⟨by omega, by omega⟩
theorem abs3_not {a : Int} (h : ¬ (if a < 0 then -a else a) ≤ 3) : ¬ (-3 ≤ a ∧ a ≤ 3) := by
  split at h
  · exact fun q => h (Int.neg_le_of_neg_le q.1)
  · exact fun q => h q.2
theorem b01 {c : Int} (h : c = 0 ∨ c = 1) : 0 ≤ c := by rcases h with rfl | rfl <;> decide
theorem b63 {c : Int} (h : c = 0 ∨ c = 1) : c < 2 ^ 63 := by rcases h with rfl | rfl <;> decide
theorem upto3 {d : Int} (h1 : -3 ≤ d) (h2 : d ≤ 3) : d = -3 ∨ d = -2 ∨ d = -1 ∨ d = 0 ∨ d = 1 ∨ d = 2 ∨ d = 3 := by omega
theorem negmod8 (n : Nat) : ((-(n : Int)).fmod 8).toNat = (8 - n % 8) % 8 := by
  cases n with
  | zero => rfl
  | succ m =>
    rw [show (-((m + 1 : Nat) : Int)).fmod 8 = Int.subNatNat 8 (m % 8 + 1) from rfl, Int.subNatNat_eq_coe, Int.toNat_sub, ← Nat.mod_add_mod m 8 1]
    exact (by decide : ∀ r, r < 8 → 8 - (r + 1) = (8 - (r + 1) % 8) % 8) (m % 8) (Nat.mod_lt _ (by decide))
theorem up8_eq {n p nb : Nat} (h : n + p = 8 * nb) (hp : p < 8) : (n + 7) / 8 = nb :=
  Nat.div_eq_of_lt_le (by rw [Nat.mul_comm, ← h]; exact Nat.add_le_add_left (Nat.le_of_lt_succ hp) n)
    (by rw [Nat.succ_mul, Nat.mul_comm, ← h]; exact Nat.lt_of_lt_of_le (Nat.add_lt_add_left (by decide) n) (Nat.add_le_add_right (Nat.le_add_right n p) 8))
theorem oj (i j : Nat) : (0 + (i : Int) * 8 + (j : Int)).toNat = 8 * i + j := by rw [Int.zero_add, Int.mul_comm]; rfl
theorem f8_nn (n : Int) : 0 ≤ n.fmod 8 := Int.fmod_nonneg_of_pos n (by decide)
theorem f8_lt (n : Int) : n.fmod 8 < 8 := Int.fmod_lt_of_pos n (by decide)
theorem f8_63 (n : Int) : n.fmod 8 < 2 ^ 63 := Int.lt_trans (f8_lt n) (by decide)
theorem f8_n63 (n : Int) : -(2 ^ 63) ≤ n.fmod 8 := Int.le_trans (by decide) (f8_nn n)
theorem f8_1m (n : Int) : n.fmod 8 ≤ ((1048576 : Nat) : Int) := Int.le_trans (Int.le_of_lt (f8_lt n)) (by decide)
theorem fdiv8i (n : Nat) : (n : Int).fdiv 8 = ((n / 8 : Nat) : Int) := by cases n <;> rfl
theorem pack_lt {n m : Nat} (h : n < m) : (n : Int).fdiv 8 < (((m + 7 : Int).fdiv 8).toNat : Int) := by
  rw [fdiv8i]; exact Int.ofNat_lt.2 (Nat.div_lt_of_lt_mul (Nat.lt_of_lt_of_le h (le_up8 m)))
theorem pack_63 {n : Nat} (h : n ≤ 12) : (n : Int).fdiv 8 < 2 ^ 63 := by
  rw [fdiv8i]; exact Int.ofNat_lt.2 (Nat.lt_of_le_of_lt (Nat.div_le_self _ _) (Nat.lt_of_le_of_lt h (by decide)))
theorem pack_nn (n : Nat) : 0 ≤ (n : Int).fdiv 8 := by rw [fdiv8i]; exact Int.natCast_nonneg _
theorem sub_step {n i : Nat} (h : i < n) : n + 1 - (i + 1) < n + 1 - i := Nat.sub_succ_lt_self (n + 1) i (Nat.lt_succ_of_lt h)
theorem fmod_pos_in (a : Int) {b : Int} (h : 0 < b) : 0 ≤ a.fmod b ∧ a.fmod b < b := ⟨Int.fmod_nonneg_of_pos a h, Int.fmod_lt_of_pos a h⟩

example : True := by w_top off; trivial
theorem wait {G : Prop} (h : ∀ C : Prop, (G → C) → C) : G := h G id
noncomputable abbrev LS : List Str := looseW hd.view_39 [Str.ofString "BitParser", Str.ofString "CCITTG4Parser", Str.ofString "CCITTFaxDecoder", Str.ofString "_law_runs"]
abbrev PG : Program := PySem.Challenge.rw_ao0017_01.row.prog

/-- the tokens of an instance's keys -/
structure Ks where
  k0 : Tok
  k1 : Tok
  k2 : Tok
  k3 : Tok
  k4 : Tok
  k5 : Tok
  k6 : Tok
  k7 : Tok
  k8 : Tok
  k9 : Tok
  k10 : Tok
  k11 : Tok
  k12 : Tok
  k13 : Tok
def ent (P : Params) (nm : String) (t : Tok) (v : Value) : DictEntry := ⟨PyData.keyHash P (Str.ofString nm), .str (Str.ofString nm) t, v⟩
def tailEs (P : Params) (k : Ks) : Option Value → Option Value → List DictEntry
  | none, _ => []
  | some a, none => [ent P "_n1" k.k12 a]
  | some a, some b => [ent P "_n1" k.k12 a, ent P "_n2" k.k13 b]
/-- the decoder's own dict -/
def decEs (P : Params) (k : Ks) (pos width al y cur rf cpos col acc st rev buf : Value) (n1 n2 : Option Value) : List DictEntry :=
  ent P "_pos" k.k0 pos :: ent P "width" k.k1 width :: ent P "bytealign" k.k2 al :: ent P "_y" k.k3 y :: ent P "_curline" k.k4 cur :: ent P "_refline" k.k5 rf ::
  ent P "_curpos" k.k6 cpos :: ent P "_color" k.k7 col :: ent P "_accept" k.k8 acc :: ent P "_state" k.k9 st :: ent P "reversed" k.k10 rev :: ent P "_buf" k.k11 buf :: tailEs P k n1 n2
section
variable {P : Params} {k : Ks} {pos width al y cur rf cpos col acc st rev buf : Value} {n1 n2 : Option Value}
theorem gt_pos : getL (Str.ofString "_pos") (decEs P k pos width al y cur rf cpos col acc st rev buf n1 n2) = some (some pos) := by kernel_rfl
theorem gt_width : getL (Str.ofString "width") (decEs P k pos width al y cur rf cpos col acc st rev buf n1 n2) = some (some width) := by kernel_rfl
theorem gt_al : getL (Str.ofString "bytealign") (decEs P k pos width al y cur rf cpos col acc st rev buf n1 n2) = some (some al) := by kernel_rfl
theorem gt_y : getL (Str.ofString "_y") (decEs P k pos width al y cur rf cpos col acc st rev buf n1 n2) = some (some y) := by kernel_rfl
theorem gt_cur : getL (Str.ofString "_curline") (decEs P k pos width al y cur rf cpos col acc st rev buf n1 n2) = some (some cur) := by kernel_rfl
theorem gt_rf : getL (Str.ofString "_refline") (decEs P k pos width al y cur rf cpos col acc st rev buf n1 n2) = some (some rf) := by kernel_rfl
theorem gt_cpos : getL (Str.ofString "_curpos") (decEs P k pos width al y cur rf cpos col acc st rev buf n1 n2) = some (some cpos) := by kernel_rfl
theorem gt_col : getL (Str.ofString "_color") (decEs P k pos width al y cur rf cpos col acc st rev buf n1 n2) = some (some col) := by kernel_rfl
theorem gt_acc : getL (Str.ofString "_accept") (decEs P k pos width al y cur rf cpos col acc st rev buf n1 n2) = some (some acc) := by kernel_rfl
theorem gt_st : getL (Str.ofString "_state") (decEs P k pos width al y cur rf cpos col acc st rev buf n1 n2) = some (some st) := by kernel_rfl
theorem gt_rev : getL (Str.ofString "reversed") (decEs P k pos width al y cur rf cpos col acc st rev buf n1 n2) = some (some rev) := by kernel_rfl
theorem gt_buf : getL (Str.ofString "_buf") (decEs P k pos width al y cur rf cpos col acc st rev buf n1 n2) = some (some buf) := by kernel_rfl
theorem gt_n1 {v : Value} : getL (Str.ofString "_n1") (decEs P k pos width al y cur rf cpos col acc st rev buf (some v) n2) = some (some v) := by cases n2 <;> kernel_rfl
theorem gt_n2 {u v : Value} : getL (Str.ofString "_n2") (decEs P k pos width al y cur rf cpos col acc st rev buf (some u) (some v)) = some (some v) := by kernel_rfl
theorem getL_none {nm : Str} : ∀ {es : List DictEntry}, (∀ e ∈ es, e.key.isStr nm = false ∧ e.refKey = false) → getL nm es = some none
  | es, h => by
    unfold getL
    rw [List.find?_eq_none.mpr fun e he => by rw [(h e he).1]; decide]
    rw [List.any_eq_false.mpr fun e he => by rw [(h e he).2]; decide]
    rfl
theorem ent_off {nm s : String} {t : Tok} {v : Value} (h : (!(Str.ofString s == Str.ofString nm)) = true) : (ent P s t v).key.isStr (Str.ofString nm) = false ∧ (ent P s t v).refKey = false := ⟨by simpa [ent, Value.isStr] using h, rfl⟩
/-- a name that the dict does not bear -/
theorem gt_none (nm : String) (h : (["_pos", "width", "bytealign", "_y", "_curline", "_refline", "_curpos", "_color", "_accept", "_state", "reversed", "_buf", "_n1", "_n2"] : List String).all (fun s => !(Str.ofString s == Str.ofString nm)) = true) :
    getL (Str.ofString nm) (decEs P k pos width al y cur rf cpos col acc st rev buf n1 n2) = some none := by
  refine getL_none fun e he => ?_
  have q : ∃ s t v, e = ent P s t v ∧ s ∈ (["_pos", "width", "bytealign", "_y", "_curline", "_refline", "_curpos", "_color", "_accept", "_state", "reversed", "_buf", "_n1", "_n2"] : List String) := by
    unfold decEs at he
    revert e
    refine List.forall_mem_cons.mpr ⟨⟨_, _, _, rfl, by decide⟩, ?_⟩
    refine List.forall_mem_cons.mpr ⟨⟨_, _, _, rfl, by decide⟩, ?_⟩
    refine List.forall_mem_cons.mpr ⟨⟨_, _, _, rfl, by decide⟩, ?_⟩
    refine List.forall_mem_cons.mpr ⟨⟨_, _, _, rfl, by decide⟩, ?_⟩
    refine List.forall_mem_cons.mpr ⟨⟨_, _, _, rfl, by decide⟩, ?_⟩
    refine List.forall_mem_cons.mpr ⟨⟨_, _, _, rfl, by decide⟩, ?_⟩
    refine List.forall_mem_cons.mpr ⟨⟨_, _, _, rfl, by decide⟩, ?_⟩
    refine List.forall_mem_cons.mpr ⟨⟨_, _, _, rfl, by decide⟩, ?_⟩
    refine List.forall_mem_cons.mpr ⟨⟨_, _, _, rfl, by decide⟩, ?_⟩
    refine List.forall_mem_cons.mpr ⟨⟨_, _, _, rfl, by decide⟩, ?_⟩
    refine List.forall_mem_cons.mpr ⟨⟨_, _, _, rfl, by decide⟩, ?_⟩
    refine List.forall_mem_cons.mpr ⟨⟨_, _, _, rfl, by decide⟩, ?_⟩
    cases n1 with
    | none => exact fun _ h => nomatch h
    | some a => cases n2 with
      | none => exact List.forall_mem_cons.mpr ⟨⟨_, _, _, rfl, by decide⟩, fun _ h => nomatch h⟩
      | some b => exact List.forall_mem_cons.mpr ⟨⟨_, _, _, rfl, by decide⟩, List.forall_mem_cons.mpr ⟨⟨_, _, _, rfl, by decide⟩, fun _ h => nomatch h⟩⟩
  obtain ⟨s, t, v, rfl, hs⟩ := q
  exact ent_off (List.all_eq_true.mp h s hs)
theorem hs_has {nm : Str} {v : Value} {es : List DictEntry} (h : getL nm es = some (some v)) : (getL nm es).isSome = true := by rw [h]; rfl
theorem hs_none {nm : Str} {es : List DictEntry} (h : getL nm es = some none) : (getL nm es).isSome = true := by rw [h]; rfl
theorem pt_pos {h : Int} {kv v : Value} {n : Nat} : (putL (Str.ofString "_pos") h kv v (decEs P k pos width al y cur rf cpos col acc st rev buf n1 n2), putN (Str.ofString "_pos") (decEs P k pos width al y cur rf cpos col acc st rev buf n1 n2) n) = (decEs P k v width al y cur rf cpos col acc st rev buf n1 n2, n) := by kernel_rfl
theorem pt_y {h : Int} {kv v : Value} {n : Nat} : (putL (Str.ofString "_y") h kv v (decEs P k pos width al y cur rf cpos col acc st rev buf n1 n2), putN (Str.ofString "_y") (decEs P k pos width al y cur rf cpos col acc st rev buf n1 n2) n) = (decEs P k pos width al v cur rf cpos col acc st rev buf n1 n2, n) := by kernel_rfl
theorem pt_cur {h : Int} {kv v : Value} {n : Nat} : (putL (Str.ofString "_curline") h kv v (decEs P k pos width al y cur rf cpos col acc st rev buf n1 n2), putN (Str.ofString "_curline") (decEs P k pos width al y cur rf cpos col acc st rev buf n1 n2) n) = (decEs P k pos width al y v rf cpos col acc st rev buf n1 n2, n) := by kernel_rfl
theorem pt_rf {h : Int} {kv v : Value} {n : Nat} : (putL (Str.ofString "_refline") h kv v (decEs P k pos width al y cur rf cpos col acc st rev buf n1 n2), putN (Str.ofString "_refline") (decEs P k pos width al y cur rf cpos col acc st rev buf n1 n2) n) = (decEs P k pos width al y cur v cpos col acc st rev buf n1 n2, n) := by kernel_rfl
theorem pt_cpos {h : Int} {kv v : Value} {n : Nat} : (putL (Str.ofString "_curpos") h kv v (decEs P k pos width al y cur rf cpos col acc st rev buf n1 n2), putN (Str.ofString "_curpos") (decEs P k pos width al y cur rf cpos col acc st rev buf n1 n2) n) = (decEs P k pos width al y cur rf v col acc st rev buf n1 n2, n) := by kernel_rfl
theorem pt_col {h : Int} {kv v : Value} {n : Nat} : (putL (Str.ofString "_color") h kv v (decEs P k pos width al y cur rf cpos col acc st rev buf n1 n2), putN (Str.ofString "_color") (decEs P k pos width al y cur rf cpos col acc st rev buf n1 n2) n) = (decEs P k pos width al y cur rf cpos v acc st rev buf n1 n2, n) := by kernel_rfl
theorem pt_acc {h : Int} {kv v : Value} {n : Nat} : (putL (Str.ofString "_accept") h kv v (decEs P k pos width al y cur rf cpos col acc st rev buf n1 n2), putN (Str.ofString "_accept") (decEs P k pos width al y cur rf cpos col acc st rev buf n1 n2) n) = (decEs P k pos width al y cur rf cpos col v st rev buf n1 n2, n) := by kernel_rfl
theorem pt_st {h : Int} {kv v : Value} {n : Nat} : (putL (Str.ofString "_state") h kv v (decEs P k pos width al y cur rf cpos col acc st rev buf n1 n2), putN (Str.ofString "_state") (decEs P k pos width al y cur rf cpos col acc st rev buf n1 n2) n) = (decEs P k pos width al y cur rf cpos col acc v rev buf n1 n2, n) := by kernel_rfl
theorem pt_buf {h : Int} {kv v : Value} {n : Nat} : (putL (Str.ofString "_buf") h kv v (decEs P k pos width al y cur rf cpos col acc st rev buf n1 n2), putN (Str.ofString "_buf") (decEs P k pos width al y cur rf cpos col acc st rev buf n1 n2) n) = (decEs P k pos width al y cur rf cpos col acc st rev v n1 n2, n) := by kernel_rfl
theorem pt_n1 {u v : Value} {h : Int} {kv : Value} {n : Nat} : (putL (Str.ofString "_n1") h kv v (decEs P k pos width al y cur rf cpos col acc st rev buf (some u) n2), putN (Str.ofString "_n1") (decEs P k pos width al y cur rf cpos col acc st rev buf (some u) n2) n) = (decEs P k pos width al y cur rf cpos col acc st rev buf (some v) n2, n) := by cases n2 <;> kernel_rfl
theorem pt_n1_new {v : Value} {t : Tok} {n : Nat} : (putL (Str.ofString "_n1") (PyData.keyHash P (Str.ofString "_n1")) (.str (Str.ofString "_n1") t) v (decEs P k pos width al y cur rf cpos col acc st rev buf none none), putN (Str.ofString "_n1") (decEs P k pos width al y cur rf cpos col acc st rev buf none none) n) = (decEs P { k with k12 := t } pos width al y cur rf cpos col acc st rev buf (some v) none, n + 1) := by kernel_rfl
theorem pt_n2 {a u v : Value} {h : Int} {kv : Value} {n : Nat} : (putL (Str.ofString "_n2") h kv v (decEs P k pos width al y cur rf cpos col acc st rev buf (some a) (some u)), putN (Str.ofString "_n2") (decEs P k pos width al y cur rf cpos col acc st rev buf (some a) (some u)) n) = (decEs P k pos width al y cur rf cpos col acc st rev buf (some a) (some v), n) := by kernel_rfl
theorem pt_n2_new {a v : Value} {t : Tok} {n : Nat} : (putL (Str.ofString "_n2") (PyData.keyHash P (Str.ofString "_n2")) (.str (Str.ofString "_n2") t) v (decEs P k pos width al y cur rf cpos col acc st rev buf (some a) none), putN (Str.ofString "_n2") (decEs P k pos width al y cur rf cpos col acc st rev buf (some a) none) n) = (decEs P { k with k13 := t } pos width al y cur rf cpos col acc st rev buf (some a) (some v), n + 1) := by kernel_rfl
theorem len_dec : (decEs P k pos width al y cur rf cpos col acc st rev buf n1 n2).length ≤ 1000 := by
  cases n1 with
  | none => simp [decEs, tailEs]
  | some a => cases n2 <;> simp [decEs, tailEs]
end

local macro_rules | `(tactic| omega) => `(tactic| first | with_reducible assumption | with_reducible exact fun q => absurd q.1 (by assumption) | with_reducible exact fun q => absurd q.2 (by assumption) | lia)
local macro_rules | `(tactic| k_get) => `(tactic| with_reducible (first
  | exact gt_pos | exact gt_width | exact gt_al | exact gt_y | exact gt_cur | exact gt_rf | exact gt_cpos | exact gt_col | exact gt_acc | exact gt_st | exact gt_rev | exact gt_buf | exact gt_n1 | exact gt_n2 | exact gt_none _ (by decide +kernel)
  | exact hs_has gt_pos | exact hs_has gt_width | exact hs_has gt_al | exact hs_has gt_y | exact hs_has gt_cur | exact hs_has gt_rf | exact hs_has gt_cpos | exact hs_has gt_col | exact hs_has gt_acc | exact hs_has gt_st | exact hs_has gt_rev | exact hs_has gt_buf | exact hs_has gt_n1 | exact hs_has gt_n2 | exact hs_none (gt_none _ (by decide +kernel))))
local macro_rules | `(tactic| k_put) => `(tactic| with_reducible (first
  | exact pt_pos | exact pt_y | exact pt_cur | exact pt_rf | exact pt_cpos | exact pt_col | exact pt_acc | exact pt_st | exact pt_buf | exact pt_n1 | exact pt_n1_new | exact pt_n2 | exact pt_n2_new))
local macro_rules | `(tactic| walk_at "setAttr ref") => `(tactic| (k_here; k_dflt
  (refine' set_dict ?k1 ?k2 ?k3 ?k4 ?k5 ?k6 ?k7 ?k8 ?k9 ?k10 ?k11 ?k12 ?k13 ?_; (case k1 => k_asm); (case k2 => k_asm); (case k3 => k_asm); (case k4 => k_inst); (case k5 => exact rfl); (case k6 => k_is); (case k7 => k_is); (case k8 => k_is); (case k9 => k_is); (case k10 => k_get); (case k11 => k_put); (case k12 => k_upd); (case k13 => exact len_dec); k_whole; intro hQ FQ NQ; (try k_sweep))))

example : True := by w_top off; trivial
/-- what a call has left: all stands but what lay at adr; the new cells lie at adr or at new addresses -/
structure Aft (h h' : Heap) (adr : List Addr) (new : List (Addr × Obj)) : Prop where
  keep : ∀ b o, h.get? b = some o → b ∉ adr → h'.get? b = some o
  got : ∀ p ∈ new, h'.get? p.1 = some p.2
  src : ∀ p ∈ new, p.1 ∈ adr ∨ h.get? p.1 = none
theorem fr_aft {h₀ h h' : Heap} {L : Addr} {m : Str → Option Value} {adr : List Addr} {old new : List (Addr × Obj)} (F : Fr h₀ L h m) (N : News h₀ L h old) (ha : ∀ a ∈ adr, a ∈ old.map (·.1)) (D : Aft h h' adr new) : Fr h₀ L h' m := by
  have hL : L ∉ adr := fun q => by
    obtain ⟨p, hp, e⟩ := List.mem_map.mp (ha _ q)
    exact (N p hp).2.1 e
  refine ⟨F.ns.at' fun o e => D.keep L o e hL, fun b o e => D.keep b o (F.keep b o e) fun q => ?_, F.above⟩
  obtain ⟨p, hp, e'⟩ := List.mem_map.mp (ha _ q)
  have := (N p hp).2.2
  rw [e', e] at this; cases this
theorem news_aft {h₀ h h' : Heap} {L : Addr} {m : Str → Option Value} {adr : List Addr} {old new : List (Addr × Obj)} (F : Fr h₀ L h m) (N : News h₀ L h old) (ha : ∀ a ∈ adr, a ∈ old.map (·.1)) (D : Aft h h' adr new) : News h₀ L h' new := fun p hp => by
  refine ⟨D.got p hp, ?_, ?_⟩
  · rcases D.src p hp with q | q
    · obtain ⟨r, hr, e⟩ := List.mem_map.mp (ha _ q)
      exact e ▸ (N r hr).2.1
    · intro e
      obtain ⟨o, _, _, ho, _⟩ := F.ns
      rw [← e, q] at ho; cases ho
  · rcases D.src p hp with q | q
    · obtain ⟨r, hr, e⟩ := List.mem_map.mp (ha _ q)
      exact e ▸ (N r hr).2.2
    · cases e : h₀.get? p.1 with
      | none => rfl
      | some o => rw [F.keep _ _ e] at q; cases q
/-- the cells that the call has not been handed -/
theorem news_rest {h₀ h h' : Heap} {L : Addr} {adr : List Addr} {rest new : List (Addr × Obj)} (N : News h₀ L h rest) (hr : ∀ p ∈ rest, p.1 ∉ adr) (D : Aft h h' adr new) : News h₀ L h' rest := fun p hp =>
  ⟨D.keep _ _ (N p hp).1 (hr p hp), (N p hp).2⟩
theorem new_off {h₀ h h' : Heap} {L : Addr} {adr : List Addr} {rest new : List (Addr × Obj)} (N : News h₀ L h rest) (hr : ∀ p ∈ rest, p.1 ∉ adr) (D : Aft h h' adr new) : ∀ p ∈ new, ∀ q ∈ rest, p.1 ≠ q.1 := fun p hp q hq e => by
  rcases D.src p hp with z | z
  · exact hr q hq (e ▸ z)
  · rw [e, (N q hq).1] at z; cases z
theorem aft_of {h₀ h g h' : Heap} {L L' : Addr} {m' : Str → Option Value} {old new : List (Addr × Obj)} (N : News h₀ L h old) (G : GSub h g (old.map (·.1))) (F' : Fr g L' h' m') (N' : News g L' h' new) : Aft h h' (old.map (·.1)) new := by
  refine ⟨fun b o e n => F'.keep b o (G b o e n), fun p hp => (N' p hp).1, fun p hp => ?_⟩
  by_cases q : p.1 ∈ old.map (·.1)
  · exact .inl q
  · refine .inr ?_
    cases e : h.get? p.1 with
    | none => rfl
    | some o =>
      have := (N' p hp).2.2
      rw [G _ _ e q] at this; cases this
theorem Aft.sub {h h' : Heap} {adr : List Addr} {new new' : List (Addr × Obj)} (D : Aft h h' adr new) (hs : ∀ p ∈ new', p ∈ new) : Aft h h' adr new' := ⟨D.keep, fun p hp => D.got p (hs p hp), fun p hp => D.src p (hs p hp)⟩
theorem news_sub {h₀ h : Heap} {L : Addr} {old new : List (Addr × Obj)} (N : News h₀ L h old) (hs : ∀ p ∈ new, p ∈ old) : News h₀ L h new := fun p hp => N p (hs p hp)

theorem ints_flat (n : Nat) (v : Int) (t : Tok) : IntsAre (List.replicate n [Value.int v t]).flatten (List.replicate n v) := by
  induction n with
  | zero => exact .nil
  | succ n ih => exact .cons _ _ ih


local macro_rules | `(tactic| cell_enter) => `(tactic| (refine' code_defG ?k1 ?k2 ?k3 ?k4 ?k5 ?kA ?kF ?kK ?k6 ?k7 ?k8 ?k9 ?kB ?_ ?c2 ?c3 ?c4 ?c5; (case kA => exact rfl); (case kF => exact rfl); (case kK => assumption); (case k1 => k_asm); (case k2 => k_asm); (case k3 => k_asm); (case k4 => k_asm); (case k5 => k_asm); (case k6 => k_is); (case k7 => k_is); (case k8 => ktr_room); (case k9 => exact BindsTo.of_eq rfl); (case c5 => decide); (case kB => exact locs rfl); (case c2 => exact rfl); (case c3 => exact rfl); (case c4 => exact rfl); k_whole))
local macro_rules | `(tactic| cell_step) => `(tactic| (
  (have hz : (PySem.Challenge.rw_ao0017_01 : OpenLaw) = PySem.Challenge.rw_ao0017_01 := rfl)
  (rename Frag.In _ _ => kX0)
  revert kX0 hz
  k_fill
  intro kX0 hz
  clear hz
  refine wpAny_call ?_
  k_dflt cell_enter))

example : True := by w_top off; trivial
/-- the surroundings of a call -/
structure Cx (w : World) (mean : ExcName → Option Value) (mg mb : Str → Option Value) (cs : Scope) (outer : List Env) (A₀ : Around) (base h₀ : Heap) (L : Addr) (m : Str → Option Value) (h : Heap) : Prop where
  B : Below A₀ base outer h₀
  F : Fr h₀ L h m
  X : (hd.heap_39 w.params).In h₀
  T : Top hd.view_39 LS mean mg mb h₀
  K : cs.kind = .function
theorem Cx.aft {w : World} {mean : ExcName → Option Value} {mg mb : Str → Option Value} {cs : Scope} {outer : List Env} {A₀ : Around} {base h₀ : Heap} {L : Addr} {m : Str → Option Value} {h h' : Heap} {adr : List Addr} {old new : List (Addr × Obj)} (C : Cx w mean mg mb cs outer A₀ base h₀ L m h)
    (N : News h₀ L h old) (ha : ∀ a ∈ adr, a ∈ old.map (·.1)) (D : Aft h h' adr new) : Cx w mean mg mb cs outer A₀ base h₀ L m h' := ⟨C.B, fr_aft C.F N ha D, C.X, C.T, C.K⟩

/-- the first place from a on where p holds -/
def IsFirst (p : Int → Prop) (a b : Int) : Prop := a ≤ b ∧ p b ∧ ∀ y, a ≤ y → y < b → ¬ p y
/-- where the first search of the row above stops -/
def stop1 (rf : List Int) (col x : Int) : Prop := if x = 0 then col = 1 ∧ rf.getD x.toNat 0 ≠ col else x = rf.length ∨ (rf.getD (x - 1).toNat 0 = col ∧ rf.getD x.toNat 0 ≠ col)
/-- where the second one stops -/
def stop2 (rf : List Int) (col x : Int) : Prop := if x = 0 then col = 0 ∧ rf.getD x.toNat 0 = col else x = rf.length ∨ (rf.getD (x - 1).toNat 0 ≠ col ∧ rf.getD x.toNat 0 = col)
/-- n places from a on are v -/
def fillN (l : List Int) (v : Int) (a : Nat) : Nat → List Int
  | 0 => l
  | k + 1 => (fillN l v a k).set (a + k) v
theorem fillN_length (l : List Int) (v : Int) (a : Nat) : ∀ k, (fillN l v a k).length = l.length
  | 0 => rfl
  | k + 1 => by rw [fillN, List.length_set, fillN_length]
theorem cut {α : Type} {M : Model} {A : Around} {t : Sem α} {Q₁ Q : α → Shared → Prop} {E : Value → Shared → Prop} {s : Shared} (h1 : wpAny M A t Q₁ E s) (h2 : ∀ a s', Q₁ a s' → Q a s') : wpAny M A t Q E s := wpAny_mono h1 h2 fun _ _ e => e
theorem ints_set {vs : List Value} {ns : List Int} (h : IntsAre vs ns) (i : Nat) (v : Int) (t : Tok) : IntsAre (vs.set i (.int v t)) (ns.set i v) := by
  induction h generalizing i with
  | nil => exact .nil
  | cons n u _ ih => cases i with
    | zero => exact .cons _ _ (by assumption)
    | succ i => exact .cons _ _ (ih i)
/-- a place between two stretches of a walk -/
inductive Mid (g : Heap) (L : Addr) (s : Shared) (P : Flow → (Str → Option Value) → List (Addr × Obj) → Prop) (f : Flow) (s₂ : Shared) : Prop where
  | intro : ∀ kh tk mp cells, s₂ = { s with heap := kh, toks := tk } → Fr g L kh mp → News g L kh cells → P f mp cells → Mid g L s P f s₂
theorem Mid.mk {g : Heap} {L : Addr} {s : Shared} {P : Flow → (Str → Option Value) → List (Addr × Obj) → Prop} {f : Flow} {kh : Heap} {tk : Nat} {mp : Str → Option Value} {cells : List (Addr × Obj)} (F : Fr g L kh mp) (N : News g L kh cells) (h : P f mp cells) : Mid g L s P f { s with heap := kh, toks := tk } := ⟨kh, tk, mp, cells, rfl, F, N, h⟩
theorem kst1 {x : Str} {v : Value} {old : Option Value} {u m₀ : Str → Option Value} : kstB (fun z => if ([] : List Str).contains z = true then u z else (if z = x then old else m₀ z)) [(x, v)] = fun z => if z = x then some v else m₀ z := by
  funext z
  by_cases h : z = x <;> simp [kstB, h]
theorem stop1_lt {rf : List Int} {col x wd : Int} (h : ¬ stop1 rf col x) (hl : (rf.length : Int) = wd) (h0 : 1 ≤ wd) (hx : x ≤ wd) : x < wd := by
  unfold stop1 at h
  by_cases e : x = 0
  · rw [e]; exact Int.lt_of_lt_of_le Int.one_pos h0
  · rw [if_neg e] at h
    exact lt_ne hx fun q => h (.inl (q.trans hl.symm))
theorem stop2_lt {rf : List Int} {col x wd : Int} (h : ¬ stop2 rf col x) (hl : (rf.length : Int) = wd) (h0 : 1 ≤ wd) (hx : x ≤ wd) : x < wd := by
  unfold stop2 at h
  by_cases e : x = 0
  · rw [e]; exact Int.lt_of_lt_of_le Int.one_pos h0
  · rw [if_neg e] at h
    exact lt_ne hx fun q => h (.inl (q.trans hl.symm))
theorem kst0 {x : Str} {u m₀ : Str → Option Value} : (fun y => if y = x then u y else kstB (fun z => if ([] : List Str).contains z = true then u z else m₀ z) [] y) = fun y => if y = x then u x else m₀ y := by
  funext z
  by_cases h : z = x <;> simp [kstB, h]
theorem kst0v {x : Str} {v : Value} {u m₀ : Str → Option Value} : (fun y => if y = x then some v else kstB (fun z => if ([] : List Str).contains z = true then u z else m₀ z) [] y) = fun y => if y = x then some v else m₀ y := by
  funext z
  by_cases h : z = x <;> simp [kstB, h]
theorem fr_map {g h : Heap} {L : Addr} {m m' : Str → Option Value} (F : Fr g L h m) (e : m = m') : Fr g L h m' := e ▸ F
theorem mp_none {x : Str} {m : Str → Option Value} (h : m x = none) : m = fun y => if y = x then none else m y := by
  funext z
  by_cases e : z = x
  · rw [if_pos e, e, h]
  · rw [if_neg e]
theorem if_dup1 {α : Type} {p : Prop} [Decidable p] {u w m : α} : (if p then u else if p then w else m) = if p then u else m := by split <;> rfl
theorem if_dup2 {α : Type} {p q : Prop} [Decidable p] [Decidable q] {u v w m : α} : (if p then u else if q then v else if p then w else m) = if p then u else if q then v else m := by
  by_cases h : p
  · rw [if_pos h, if_pos h]
  · rw [if_neg h, if_neg h, if_neg h]
theorem if_dup3 {α : Type} {p q r : Prop} [Decidable p] [Decidable q] [Decidable r] {u v v' w m : α} : (if p then u else if q then v else if r then v' else if p then w else m) = if p then u else if q then v else if r then v' else m := by
  by_cases h : p
  · rw [if_pos h, if_pos h]
  · rw [if_neg h, if_neg h, if_neg h]
theorem ints_fill {q : List Value} {cur : List Int} {v : Int} {a : Nat} {pre : List Int} {kx a₀ : Int} {t : Tok} (h : IntsAre q (fillN cur v a pre.length)) (e : kx = a₀ + pre.length) (h0 : 0 ≤ a₀) (ea : a = a₀.toNat) : IntsAre (q.set kx.toNat (.int v t)) (fillN cur v a (pre ++ [kx]).length) := by
  rw [List.length_append, List.length_singleton, fillN]
  have : a + pre.length = kx.toNat := by rw [ea, e]; exact toNat_addN h0
  rw [this]
  exact ints_set h _ _ _

example : True := by w_top off; trivial
/-- t gives v: a reading that leaves the heap as it is, the tokens go from n to n' -/
def Gv {α : Type} (M : Model) (A : Around) (t : Sem α) (h : Heap) (g : Array GenState) (d : Drawn) (o : OsState) (n : Nat) (v : α) (n' : Nat) : Prop :=
  ∀ (Q : α → Shared → Prop) (E : Value → Shared → Prop), Q v ⟨h, g, d, n', o⟩ → wpAny M A t Q E ⟨h, g, d, n, o⟩
/-- t gives the whole number i, under some token -/
def Gi (M : Model) (A : Around) (t : Sem Value) (h : Heap) (g : Array GenState) (d : Drawn) (o : OsState) (n : Nat) (i : Int) (n' : Nat) : Prop :=
  ∀ (Q : Value → Shared → Prop) (E : Value → Shared → Prop), (∀ u, Q (.int i u) ⟨h, g, d, n', o⟩) → wpAny M A t Q E ⟨h, g, d, n, o⟩
def nmOk (cs : Scope) (x : Str) : Bool := match cs.kind, cs.names.lookup x with
  | .function, some .local => !(x == ("__debug__" : Str))
  | _, _ => false
theorem nmOk_of {cs : Scope} {x : Str} (h : nmOk cs x = true) : cs.kind = .function ∧ cs.names.lookup x = some .local ∧ (x == ("__debug__" : Str)) = false := by
  unfold nmOk at h
  split at h
  · rename_i a b
    exact ⟨a, b, by simpa using h⟩
  · cases h
/-- the names of the decoder's own values -/
def decNms : List Str := [Str.ofString "_pos", Str.ofString "width", Str.ofString "bytealign", Str.ofString "_y", Str.ofString "_curline", Str.ofString "_refline", Str.ofString "_curpos", Str.ofString "_color", Str.ofString "_accept", Str.ofString "_state", Str.ofString "reversed", Str.ofString "_buf", Str.ofString "_n1", Str.ofString "_n2"]
def decNm (nm : Str) : Bool := decNms.any fun s => s == nm
section
variable {prog : Program} {w : World} {M : Model} {A : Around} {env : Env} {h h₀ : Heap} {g : Array GenState} {d : Drawn} {o : OsState} {n n1 n2 n3 : Nat} {m : Str → Option Value} {pos xp : Pos} {x : Str} {v : Value} {i j : Int} {l r : PySem.Expr} {b : Bool} {Q : Value → Shared → Prop} {E : Value → Shared → Prop} {whole : Sem Value}
theorem Gv.run {α : Type} {t : Sem α} {v : α} {Q : α → Shared → Prop} (H : Gv M A t h g d o n v n1) (K : Q v ⟨h, g, d, n1, o⟩) : wpAny M A t Q E ⟨h, g, d, n, o⟩ := H Q E K
theorem Gi.of {t : Sem Value} {u : Tok} (H : Gv M A t h g d o n (.int i u) n1) : Gi M A t h g d o n i n1 := fun Q E q => H Q E (q u)
theorem Gv.nm (F : Fr h₀ env.locals h m) (hv : m x = some v) (hx : nmOk env.scope x = true) : Gv M A (eval (.Name x pos) env) h g d o n v n :=
  fun _ _ q => wpAny_Name (wpAny_loadName_local (nmOk_of hx).1 (nmOk_of hx).2.1 F.ns hv q) (nmOk_of hx).2.2
theorem Gi.nm {u : Tok} (F : Fr h₀ env.locals h m) (hv : m x = some (.int i u)) (hx : nmOk env.scope x = true) : Gi M A (eval (.Name x pos) env) h g d o n i n := Gi.of (Gv.nm F hv hx)
theorem Gv.lit {k : Nat} : Gv M A (eval (.Constant (.int i) k pos) env) h g d o n (.int i n) (n + 1) := fun _ _ q => wpAny_Constant_int q
theorem Gi.lit {k : Nat} : Gi M A (eval (.Constant (.int i) k pos) env) h g d o n i (n + 1) := Gi.of Gv.lit
theorem Gv.str {k : Nat} : Gv M A (eval (.Constant (.str x) k pos) env) h g d o n (.str x n) (n + 1) := fun _ _ q => Constant_str q
theorem Gv.none {k : Nat} : Gv M A (eval (.Constant .none k pos) env) h g d o n .none n := fun _ _ q => wpAny_Constant_none q
theorem dec_all : (decNms.all fun nm => plainGet (hd.heap_39 w.params) 557 nm && (findIn (hd.heap_39 w.params) (.ref 557) nm).any Option.isNone && takerIn (hd.heap_39 w.params) 557 nm == some none) = true := by kernel_rfl
theorem dec_any {nm : Str} (hn : decNm nm = true) : nm ∈ decNms := by
  obtain ⟨s, hs, e⟩ := List.any_eq_true.mp hn
  exact (beq_iff_eq.mp e) ▸ hs
theorem dec_facts {nm : Str} (hn : decNm nm = true) : plainGet (hd.heap_39 w.params) 557 nm = true ∧ findIn (hd.heap_39 w.params) (.ref 557) nm = some none ∧ takerIn (hd.heap_39 w.params) 557 nm = some none := by
  have q := List.all_eq_true.mp (dec_all (w := w)) nm (dec_any hn)
  rw [Bool.and_eq_true, Bool.and_eq_true] at q
  refine ⟨q.1.1, ?_, by simpa using q.2⟩
  have q2 := q.1.2
  revert q2
  cases findIn (hd.heap_39 w.params) (.ref 557) nm with
  | none => exact fun h => nomatch h
  | some a => cases a with
    | none => exact fun _ => rfl
    | some b => exact fun h => nomatch h
theorem dec_dict : hasDictIn (hd.heap_39 w.params) 557 = true := by kernel_rfl
theorem dec_noGet : noGet (hd.heap_39 w.params) none = true := by kernel_rfl
theorem dec_sets : findIn (hd.heap_39 w.params) (.ref 557) "__setattr__" = some (some (.builtin "object.__setattr__")) := by kernel_rfl
theorem dec_plain : plainOver (hd.heap_39 w.params) 557 = true := by kernel_rfl
theorem Gv.dec {L x₀ dx : Addr} {es : List DictEntry} {nn : Nat} {news : List (Addr × Obj)} {nm : Str} (F : Fr h₀ env.locals h m) (X : (hd.heap_39 w.params).In h₀) (N : News h₀ L h news) (h1 : (x₀, instObj 557 dx) ∈ news) (h2 : (dx, dictOf es nn) ∈ news)
    (hy : m x = some (.ref x₀)) (hx : nmOk env.scope x = true) (hn : decNm nm = true) (hl : getL nm es = some (some v)) (hv : handedIn v = true) : Gv (model prog w) A (eval (.Attribute (.Name x xp) nm pos) env) h g d o n v (n + 1) :=
  fun Q E q => Attribute_Name_ (Gv.nm F hy hx _ _ (by
    exact get_own F X (InstAt.of_news N h1 h2) (dec_facts hn).1 dec_dict (dec_facts hn).2.1 dec_noGet hl hv q))
theorem Gi.dec {L x₀ dx : Addr} {es : List DictEntry} {nn : Nat} {news : List (Addr × Obj)} {nm : Str} {u : Tok} (F : Fr h₀ env.locals h m) (X : (hd.heap_39 w.params).In h₀) (N : News h₀ L h news) (h1 : (x₀, instObj 557 dx) ∈ news) (h2 : (dx, dictOf es nn) ∈ news)
    (hy : m x = some (.ref x₀)) (hx : nmOk env.scope x = true) (hn : decNm nm = true) (hl : getL nm es = some (some (.int i u))) : Gi (model prog w) A (eval (.Attribute (.Name x xp) nm pos) env) h g d o n i (n + 1) := Gi.of (Gv.dec F X N h1 h2 hy hx hn hl rfl)
theorem Gv.bin {op : Operator} (L : Gi M A (eval l env) h g d o n i n1) (R : Gi M A (eval r env) h g d o n1 j n2) (O : ∀ t u, Gv M A (binaryOp op (.int i t) (.int j u)) h g d o n2 v n3) : Gv M A (eval (.BinOp l op r pos) env) h g d o n v n3 :=
  fun Q E q => wpAny_BinOp (L _ _ fun t => R _ _ fun u => O t u Q E q)
theorem Gv.add (L : Gi (model prog w) A (eval l env) h g d o n i n1) (R : Gi (model prog w) A (eval r env) h g d o n1 j n2) : Gv (model prog w) A (eval (.BinOp l .Add r pos) env) h g d o n (.int (i + j) n2) (n2 + 1) := Gv.bin L R fun _ _ _ _ q => add_int q
theorem Gv.sub (L : Gi (model prog w) A (eval l env) h g d o n i n1) (R : Gi (model prog w) A (eval r env) h g d o n1 j n2) : Gv (model prog w) A (eval (.BinOp l .Sub r pos) env) h g d o n (.int (i - j) n2) (n2 + 1) := Gv.bin L R fun _ _ _ _ q => sub_int q
theorem Gv.mod (L : Gi (model prog w) A (eval l env) h g d o n i n1) (R : Gi (model prog w) A (eval r env) h g d o n1 j n2) (hz : j ≠ 0) : Gv (model prog w) A (eval (.BinOp l .Mod r pos) env) h g d o n (.int (i.fmod j) n2) (n2 + 1) := Gv.bin L R fun _ _ _ _ q => mod_int' hz q
theorem Gv.neg (L : Gi (model prog w) A (eval l env) h g d o n i n1) : Gv (model prog w) A (eval (.UnaryOp .USub l pos) env) h g d o n (.int (-i) n1) (n1 + 1) := fun _ _ q => UnaryOp_ (L _ _ fun _ => neg_int q)
theorem Gi.idx {L D : Addr} {news : List (Addr × Obj)} {vs : List Value} {ns : List Int} {nn : Nat} (V : Gv (model prog w) A (eval l env) h g d o n (.ref D) n1) (I : Gi (model prog w) A (eval r env) h g d o n1 i n2) (N : News h₀ L h news) (hm : (D, listOf vs.toArray nn) ∈ news) (hi : IntsAre vs ns) (h0 : 0 ≤ i) (h1 : i < ns.length) (h2 : i < 2 ^ 63)
    (hs : ∀ u, subscripted r false (.ref D) (.int i u) = operate [.ref D, .int i u] (getItem (.ref D) (.int i u))) :
    Gi (model prog w) A (eval (.Subscript l r pos) env) h g d o n (ns.getD i.toNat 0) n2 := fun _ _ q => Subscript_ (V _ _ (I _ _ fun u => ksa_sub N hm hi h0 h1 h2 q (hs u)))
theorem noMark {op : CmpOp} (h : (op == .In || op == .NotIn) = false) : behindInMarks op r = false := by
  cases r <;> first | rfl | (show ((_ : Bool) && (op == .In || op == .NotIn) && _) = false; rw [h, Bool.and_false, Bool.false_and])
theorem Gv.cmp {op : CmpOp} (L : Gi M A (eval l env) h g d o n i n1) (R : Gi M A (eval r env) h g d o n1 j n2) (hm : behindInMarks op r = false) (O : ∀ t u (Q : Value → Shared → Prop) E, Q (.bool b) ⟨h, g, d, n2, o⟩ → wpAny M A (compareOp op (.int i t) (.int j u)) Q E ⟨h, g, d, n2, o⟩) :
    Gv M A (isTrue (.Compare l [op] [r] pos) env whole) h g d o n b n2 := fun _ _ q => wpAny_isTrue_Compare1 (L _ _ fun _ => R _ _ fun _ => O _ _ _ _ (wpAny_truthy_bool q)) hm
theorem Gv.eq (L : Gi (model prog w) A (eval l env) h g d o n i n1) (R : Gi (model prog w) A (eval r env) h g d o n1 j n2) : Gv (model prog w) A (isTrue (.Compare l [.Eq] [r] pos) env whole) h g d o n (i == j) n2 := Gv.cmp L R (noMark rfl) fun _ _ _ _ q => eq_int q
theorem Gv.ne (L : Gi (model prog w) A (eval l env) h g d o n i n1) (R : Gi (model prog w) A (eval r env) h g d o n1 j n2) : Gv (model prog w) A (isTrue (.Compare l [.NotEq] [r] pos) env whole) h g d o n (i != j) n2 := Gv.cmp L R (noMark rfl) fun _ _ _ _ q => ne_int q
theorem Gv.lt (L : Gi (model prog w) A (eval l env) h g d o n i n1) (R : Gi (model prog w) A (eval r env) h g d o n1 j n2) : Gv (model prog w) A (isTrue (.Compare l [.Lt] [r] pos) env whole) h g d o n (decide (i < j)) n2 := Gv.cmp L R (noMark rfl) fun _ _ _ _ q => lt_int q
theorem Gv.le (L : Gi (model prog w) A (eval l env) h g d o n i n1) (R : Gi (model prog w) A (eval r env) h g d o n1 j n2) : Gv (model prog w) A (isTrue (.Compare l [.LtE] [r] pos) env whole) h g d o n (decide (i ≤ j)) n2 := Gv.cmp L R (noMark rfl) fun _ _ _ _ q => le_int q
theorem Gv.gt (L : Gi (model prog w) A (eval l env) h g d o n i n1) (R : Gi (model prog w) A (eval r env) h g d o n1 j n2) : Gv (model prog w) A (isTrue (.Compare l [.Gt] [r] pos) env whole) h g d o n (decide (i > j)) n2 := Gv.cmp L R (noMark rfl) fun _ _ _ _ q => gt_int q
theorem Gv.ge (L : Gi (model prog w) A (eval l env) h g d o n i n1) (R : Gi (model prog w) A (eval r env) h g d o n1 j n2) : Gv (model prog w) A (isTrue (.Compare l [.GtE] [r] pos) env whole) h g d o n (decide (i ≥ j)) n2 := Gv.cmp L R (noMark rfl) fun _ _ _ _ q => ge_int q
theorem Gv.eqS {x y : Str} {t u : Tok} (L : Gv (model prog w) A (eval l env) h g d o n (.str x t) n1) (R : Gv (model prog w) A (eval r env) h g d o n1 (.str y u) n2) : Gv (model prog w) A (isTrue (.Compare l [.Eq] [r] pos) env whole) h g d o n (x == y) n2 :=
  fun _ _ q => wpAny_isTrue_Compare1 (L _ _ (R _ _ (eq_str (wpAny_truthy_bool q)))) (noMark rfl)
theorem Gv.num (he : isTrue l env whole = (do let v ← whole; standAt l.pos; holding [v] (truthy v))) (L : Gi (model prog w) A whole h g d o n i n1) : Gv (model prog w) A (isTrue l env whole) h g d o n (i != 0) n1 :=
  fun _ _ q => isTrue_plain (L _ _ fun _ => truthy_int q) he
theorem Gv.boo (he : isTrue l env whole = (do let v ← whole; standAt l.pos; holding [v] (truthy v))) (L : Gv (model prog w) A whole h g d o n (.bool b) n1) : Gv (model prog w) A (isTrue l env whole) h g d o n b n1 :=
  fun _ _ q => isTrue_plain (L _ _ (wpAny_truthy_bool q)) he
end
def nmLoc (cs : Scope) (x : Str) : Bool := match cs.kind, cs.names.lookup x with
  | .function, some .local => true
  | _, _ => false
theorem nmLoc_of {cs : Scope} {x : Str} (h : nmLoc cs x = true) : cs.kind = .function ∧ cs.names.lookup x = some .local := by
  unfold nmLoc at h
  split at h
  · rename_i a b
    exact ⟨a, b⟩
  · cases h
section
variable {prog : Program} {w : World} {M : Model} {A : Around} {env : Env} {h h₀ : Heap} {g : Array GenState} {d : Drawn} {o : OsState} {n n1 n2 n3 : Nat} {m : Str → Option Value} {p pos xp : Pos} {x : Str} {v : Value} {i j : Int} {e c : PySem.Expr} {b : Bool} {body orelse rest : List Stmt} {Q : Flow → Shared → Prop} {E : Value → Shared → Prop} {L : Addr} {news : List (Addr × Obj)}
theorem St.store (F : Fr h₀ L h m) (N : News h₀ L h news) (eL : env.locals = L) (hx : nmLoc env.scope x = true) {Q : Unit → Shared → Prop}
    (K : ∀ h', Fr h₀ L h' (fun y => if y = x then some v else m y) → News h₀ L h' news → Q () ⟨h', g, d, n + 1, o⟩) : wpAny M A (storeName env x v) Q E ⟨h, g, d, n, o⟩ := by
  subst eL
  refine wpAny_storeName_local (nmLoc_of hx).2 F.ns (fun h' hn hs => K h' (F.set hn hs) (N.set hs)) ?_
  rw [(nmLoc_of hx).1]; rfl
theorem St.asg (H : Gv M A (eval e env) h g d o n v n1) (F : Fr h₀ L h m) (N : News h₀ L h news) (eL : env.locals = L) (hx : nmLoc env.scope x = true) (hs : swapsWith e (some (.Name x p)) pos.line env = pure false)
    (K : ∀ h', Fr h₀ L h' (fun y => if y = x then some v else m y) → News h₀ L h' news → wpAny M A (execs rest env) Q E ⟨h', g, d, n1 + 1, o⟩) : wpAny M A (execs (.Assign [.Name x p] e pos :: rest) env) Q E ⟨h, g, d, n, o⟩ :=
  wpAny_execs_cons (wpAny_Assign_Name (H _ _ (St.store F N eL hx K)) hs)
theorem St.aug {op : Operator} {t : Tok} (H : Gi M A (eval e env) h g d o n j n1) (F : Fr h₀ L h m) (N : News h₀ L h news) (eL : env.locals = L) (hx : nmLoc env.scope x = true) (hv : m x = some (.int i t)) (O : ∀ u, Gv M A (inplaceOp op (.int i t) (.int j u)) h g d o n1 v n2)
    (K : ∀ h', Fr h₀ L h' (fun y => if y = x then some v else m y) → News h₀ L h' news → wpAny M A (execs rest env) Q E ⟨h', g, d, n2 + 1, o⟩) : wpAny M A (execs (.AugAssign (.Name x p) op e pos :: rest) env) Q E ⟨h, g, d, n, o⟩ := by
  refine wpAny_execs_cons (wpAny_AugAssign_Name (wpAny_loadName_local (nmLoc_of hx).1 (nmLoc_of hx).2 ?_ hv (H _ _ fun u => O u _ _ (St.store F N eL hx K))))
  rw [eL]; exact F.ns
theorem St.augAdd {t : Tok} (H : Gi (model prog w) A (eval e env) h g d o n j n1) (F : Fr h₀ L h m) (N : News h₀ L h news) (eL : env.locals = L) (hx : nmLoc env.scope x = true) (hv : m x = some (.int i t))
    (K : ∀ h', Fr h₀ L h' (fun y => if y = x then some (.int (i + j) n1) else m y) → News h₀ L h' news → wpAny (model prog w) A (execs rest env) Q E ⟨h', g, d, n1 + 2, o⟩) : wpAny (model prog w) A (execs (.AugAssign (.Name x p) .Add e pos :: rest) env) Q E ⟨h, g, d, n, o⟩ :=
  St.aug H F N eL hx hv (fun _ _ _ q => iadd_int q) K
theorem St.set {x₀ dx : Addr} {es es' : List DictEntry} {nn nn' : Nat} {nm : Str} {Q : Unit → Shared → Prop} (F : Fr h₀ L h m) (X : (hd.heap_39 w.params).In h₀) (N : News h₀ L h ((x₀, instObj 557 dx) :: (dx, dictOf es nn) :: news)) (hn : decNm nm = true)
    (hl : (getL nm es).isSome = true) (e' : ∀ t, (putL nm (PyData.keyHash w.params nm) (.str nm t) v es, putN nm es nn) = (es', nn')) (hz : es'.length ≤ 1000) (h1 : x₀ ≠ dx) (h2 : ∀ p ∈ news, p.1 ≠ dx)
    (K : ∀ h', Fr h₀ L h' m → News h₀ L h' ((x₀, instObj 557 dx) :: (dx, dictOf es' nn') :: news) → Q () ⟨h', g, d, n + 2, o⟩) : wpAny (model prog w) A (setAttr (.ref x₀) nm v) Q E ⟨h, g, d, n, o⟩ := by
  exact set_dict F X N (InstAt.of_news N (.head _) (.tail _ (.head _))) rfl dec_sets dec_plain (dec_facts hn).2.2 dec_dict hl (e' _) (.tail h1 (.head h2)) hz K
theorem St.attr {x₀ dx : Addr} {es es' : List DictEntry} {nn nn' : Nat} {nm : Str} (H : Gv (model prog w) A (eval e env) h g d o n v n1) (F : Fr h₀ L h m) (X : (hd.heap_39 w.params).In h₀) (N : News h₀ L h ((x₀, instObj 557 dx) :: (dx, dictOf es nn) :: news)) (eL : env.locals = L) (hy : m x = some (.ref x₀)) (hx : nmOk env.scope x = true) (hn : decNm nm = true)
    (hl : (getL nm es).isSome = true) (e' : ∀ t, (putL nm (PyData.keyHash w.params nm) (.str nm t) v es, putN nm es nn) = (es', nn')) (hz : es'.length ≤ 1000) (h1 : x₀ ≠ dx) (h2 : ∀ p ∈ news, p.1 ≠ dx) (hs : swapsWith e (some (.Attribute (.Name x xp) nm p)) pos.line env = pure false)
    (K : ∀ h', Fr h₀ L h' m → News h₀ L h' ((x₀, instObj 557 dx) :: (dx, dictOf es' nn') :: news) → wpAny (model prog w) A (execs rest env) Q E ⟨h', g, d, n1 + 2, o⟩) : wpAny (model prog w) A (execs (.Assign [.Attribute (.Name x xp) nm p] e pos :: rest) env) Q E ⟨h, g, d, n, o⟩ := by
  subst eL
  exact wpAny_execs_cons (plainObj_wpAny_Assign_Attribute (H _ _ (Gv.nm F hy hx _ _ (St.set F X N hn hl e' hz h1 h2 K))) hs)
theorem St.augAttr {x₀ dx : Addr} {es es' : List DictEntry} {nn nn' : Nat} {nm : Str} {t : Tok} (F : Fr h₀ L h m) (X : (hd.heap_39 w.params).In h₀) (N : News h₀ L h ((x₀, instObj 557 dx) :: (dx, dictOf es nn) :: news)) (eL : env.locals = L) (hy : m x = some (.ref x₀)) (hx : nmOk env.scope x = true) (hn : decNm nm = true)
    (hl : getL nm es = some (some (.int i t))) (H : Gi (model prog w) A (eval e env) h g d o (n + 1) j n1) (e' : ∀ t, (putL nm (PyData.keyHash w.params nm) (.str nm t) (.int (i + j) n1) es, putN nm es nn) = (es', nn')) (hz : es'.length ≤ 1000) (h1 : x₀ ≠ dx) (h2 : ∀ p ∈ news, p.1 ≠ dx)
    (K : ∀ h', Fr h₀ L h' m → News h₀ L h' ((x₀, instObj 557 dx) :: (dx, dictOf es' nn') :: news) → wpAny (model prog w) A (execs rest env) Q E ⟨h', g, d, n1 + 3, o⟩) : wpAny (model prog w) A (execs (.AugAssign (.Attribute (.Name x xp) nm p) .Add e pos :: rest) env) Q E ⟨h, g, d, n, o⟩ := by
  subst eL
  exact wpAny_execs_cons (wpAny_AugAssign_AttributeAny (Gv.nm F hy hx _ _ (get_own F X (InstAt.of_news N (.head _) (.tail _ (.head _))) (dec_facts hn).1 dec_dict (dec_facts hn).2.1 dec_noGet hl rfl (H _ _ fun _ => iadd_int (St.set (n := n1 + 1) F X N hn (by rw [hl]; rfl) e' hz h1 h2 K)))))
theorem St.iff (H : Gv M A (isTrue c env (eval c env)) h g d o n b n1)
    (K : if b = true then wpAny M A (execs body env) (fun f s' => match f with | .next => wpAny M A (execs rest env) Q E s' | f => Q f s') E ⟨h, g, d, n1, o⟩ else wpAny M A (execs orelse env) (fun f s' => match f with | .next => wpAny M A (execs rest env) Q E s' | f => Q f s') E ⟨h, g, d, n1, o⟩) :
    wpAny M A (execs (.If c body orelse pos :: rest) env) Q E ⟨h, g, d, n, o⟩ := wpAny_execs_cons (wpAny_If (H _ _ K))
theorem St.one {st : Stmt} {s : Shared} (h : wpAny M A (exec st env) Q E s) : wpAny M A (execs [st] env) Q E s :=
  wpAny_execs_cons (wpAny_mono h (fun f _ q => match f with | .next => wpAny_execs_nil q | .brk => q | .cont => q | .ret _ => q) fun _ _ x => x)
theorem St.iff1 (H : Gv M A (isTrue c env (eval c env)) h g d o n b n1) (K : if b = true then wpAny M A (execs body env) Q E ⟨h, g, d, n1, o⟩ else wpAny M A (execs orelse env) Q E ⟨h, g, d, n1, o⟩) :
    wpAny M A (execs [.If c body orelse pos] env) Q E ⟨h, g, d, n, o⟩ := St.one (wpAny_If (H _ _ K))
theorem St.ret (H : Gv M A (eval e env) h g d o n v n1) (K : Q (.ret v) ⟨h, g, d, n1, o⟩) : wpAny M A (execs (.Return (some e) pos :: rest) env) Q E ⟨h, g, d, n, o⟩ := wpAny_execs_cons (wpAny_Return_some (H _ _ K))
theorem St.brk {s : Shared} (K : Q .brk s) : wpAny M A (execs (.Break pos :: rest) env) Q E s := wpAny_execs_cons (wpAny_Break K)
end
theorem ne_cons {a d : Addr} {o : Obj} {r : List (Addr × Obj)} (e : a ≠ d) (N : ∀ p ∈ r, p.1 ≠ d) : ∀ p ∈ (a, o) :: r, p.1 ≠ d := fun p hp => by
  cases hp with
  | head => exact e
  | tail _ hp => exact N p hp
theorem ne_nil {d : Addr} : ∀ p ∈ ([] : List (Addr × Obj)), p.1 ≠ d := fun _ h => nomatch h
theorem sub_nil {α : Type} {old : List α} : ∀ p ∈ ([] : List α), p ∈ old := fun _ h => nomatch h
theorem sub_cons {α : Type} {a : α} {old new : List α} (h : a ∈ old) (H : ∀ p ∈ new, p ∈ old) : ∀ p ∈ a :: new, p ∈ old := fun p hp => by
  cases hp with
  | head => exact h
  | tail _ hp => exact H p hp
theorem tup6 {α β γ δ ε ζ : Type} {P : (α × β) × (γ × δ) × (ε × ζ) → Prop} (h : ∀ a b c d e f, P ((a, b), (c, d), (e, f))) : ∀ q, P q := fun ((a, b), (c, d), (e, f)) => h a b c d e f

local macro_rules | `(tactic| keq_rows) => `(tactic| first
  | with_reducible (first | exact Gi.lit | exact Gv.lit | exact Gv.str | exact Gv.none)
  | ((with_reducible first | refine' Gi.nm ?gF ?gv ?gx | refine' Gv.nm ?gF ?gv ?gx); (case gF => k_asm); (case gv => rfl); (case gx => rfl))
  | ((with_reducible first | refine' Gi.dec ?gF ?gX ?gN ?g1 ?g2 ?gv ?gx ?gn ?gl | refine' Gv.dec ?gF ?gX ?gN ?g1 ?g2 ?gv ?gx ?gn ?gl ?gh); (case gF => k_asm); (case gX => k_asm); (case gN => k_asm); (case gv => rfl); (case g1 => k_mem); (case g2 => k_mem); (case gx => rfl); (case gn => rfl); (case gl => k_get); (try (case gh => k_handed)))
  | ((with_reducible first | refine' Gv.add ?gL ?gR | refine' Gv.sub ?gL ?gR | refine' Gv.eq ?gL ?gR | refine' Gv.ne ?gL ?gR | refine' Gv.lt ?gL ?gR | refine' Gv.le ?gL ?gR | refine' Gv.gt ?gL ?gR | refine' Gv.ge ?gL ?gR); (case gL => keq_rows); (case gR => keq_rows))
  | ((with_reducible refine' Gv.eqS ?gL ?gR); (case gL => keq_rows); (case gR => keq_rows))
  | ((with_reducible refine' Gv.mod ?gL ?gR ?gz); (case gL => keq_rows); (case gR => keq_rows); (case gz => first | decide | assumption))
  | ((with_reducible refine' Gv.neg ?gL); case gL => keq_rows)
  | ((with_reducible refine' Gi.idx ?gL ?gR ?gN ?gm ?gi ?g0 ?g1 ?g2 ?gs); (case gL => keq_rows); (case gR => keq_rows); (case gN => k_asm); (case gm => k_mem); (case gi => with_reducible assumption); (case g0 => ksa_idx); (case g1 => ksa_idx); (case g2 => ksa_idx); (case gs => intro _; with_unfolding_all rfl))
  | ((with_reducible refine' Gi.of ?gL); case gL => keq_rows)
  | ((with_reducible refine' Gv.num ?gh ?gL); (case gh => exact rfl); (case gL => keq_rows))
  | ((with_reducible refine' Gv.boo ?gh ?gL); (case gh => exact rfl); (case gL => keq_rows)))
local macro_rules | `(tactic| kct_strs) => `(tactic| first
  | ((first | (with_reducible show wpAny _ _ (isTrue _ _ _) _ _ _) | (with_reducible show wpAny _ _ (eval _ _) _ _ _)); (try dsimp only); k_dflt ((with_reducible refine' Gv.run ?gz ?_); (case gz => keq_rows); k_whole))
  | ((with_reducible first | show wpAny _ _ (exec _ _) _ _ _ | show wpAny _ _ (eval (Expr.BinOp _ _ _ _) _) _ _ _ | show wpAny _ _ (eval (Expr.Call _ _ _ _) _) _ _ _ | show wpAny _ _ (eval (Expr.Tuple _ _ _) _) _ _ _); k_fold))
local macro_rules | `(tactic| kl_no) => `(tactic| with_reducible first | assumption | exact Nat.lt_succ_self _ | (refine Nat.lt_succ_of_lt ?_; kl_no) | exact And.left (by assumption) | exact And.left (And.right (by assumption)) | exact And.left (And.right (And.right (by assumption))) | exact And.left (And.right (And.right (And.right (by assumption)))) | exact And.left (And.right (And.right (And.right (And.right (by assumption))))) | exact And.left (And.right (And.right (And.right (And.right (And.right (by assumption)))))) | exact And.left (And.right (And.right (And.right (And.right (And.right (And.right (by assumption))))))) | exact And.left (And.right (And.right (And.right (And.right (And.right (And.right (And.right (by assumption)))))))) | exact And.left (And.right (And.right (And.right (And.right (And.right (And.right (And.right (And.right (by assumption))))))))) | exact And.left (And.right (And.right (And.right (And.right (And.right (And.right (And.right (And.right (And.right (by assumption)))))))))) | exact Nat.lt_of_succ_lt (by assumption) | exact Nat.lt_of_succ_lt (Nat.lt_of_succ_lt (by assumption)) | exact Nat.lt_of_succ_lt (Nat.lt_of_succ_lt (Nat.lt_of_succ_lt (by assumption))))
local macro_rules | `(tactic| k_ne) => `(tactic| (refine neN ?_; (try dsimp only); with_reducible first | assumption | exact Ne.symm (by assumption) | exact Nat.ne_of_gt (by kl_no) | exact Nat.ne_of_lt (by kl_no) | kl_no | exact Ne.symm (by kl_no)))
local macro_rules | `(tactic| k_allIn) => `(tactic| first | exact sub_nil | (refine sub_cons (by k_memK) ?_; k_allIn))
local macro_rules | `(tactic| k_all) => `(tactic| first | exact ne_nil | (refine ne_cons (by k_ne) ?_; k_all))
local macro_rules | `(tactic| keq_hits) => `(tactic| ((with_reducible show wpAny _ _ (execs (_ :: _) _) _ _ _); (try dsimp only); k_dflt (first
  | ((with_reducible first | refine' St.asg ?gz ?gF ?gN ?gL ?gx ?gs ?_ | refine' St.augAdd ?gz ?gF ?gN ?gL ?gx ?gs ?_); (case gF => k_asm); (case gN => k_asm); (case gz => keq_rows); (case gL => rfl); (case gx => rfl); (case gs => rfl); k_whole; intro hQ FQ NQ; (try k_sweep))
  | ((with_reducible refine' St.attr ?gz ?gF ?gX ?gN ?gL ?gv ?gx ?gn ?gl ?ge ?gh ?g1 ?g2 ?gs ?_); (case gF => k_asm); (case gX => k_asm); (case gN => k_asm); (case gz => keq_rows); (case gL => rfl); (case gv => rfl); (case gx => rfl); (case gn => rfl); (case gl => k_get); (case ge => intro _; k_put); (case gh => exact len_dec); (case g1 => k_ne); (case g2 => k_all); (case gs => with_unfolding_all rfl); k_whole; intro hQ FQ NQ; (try k_sweep))
  | ((with_reducible refine' St.augAttr ?gF ?gX ?gN ?gL ?gv ?gx ?gn ?gl ?gz ?ge ?gh ?g1 ?g2 ?_); (case gF => k_asm); (case gX => k_asm); (case gN => k_asm); (case gL => rfl); (case gv => rfl); (case gx => rfl); (case gn => rfl); (case gl => k_get); (case gz => keq_rows); (case ge => intro _; k_put); (case gh => exact len_dec); (case g1 => k_ne); (case g2 => k_all); k_whole; intro hQ FQ NQ; (try k_sweep))
  | ((with_reducible refine' St.ret ?gz ?_); (case gz => keq_rows); k_whole)
  | with_reducible refine St.brk ?_)))
local macro_rules | `(tactic| kat_tups) => `(tactic| ((with_reducible show wpAny _ _ (execs (Stmt.If _ _ _ _ :: _) _) _ _ _); (try dsimp only); k_dflt ((with_reducible first | refine' St.iff1 ?gz ?_ | refine' St.iff ?gz ?_); (case gz => keq_rows); k_whole)))
local macro_rules | `(tactic| tb_rel) => `(tactic| first | kat_tups | keq_hits | kct_strs | walk1 | (dsimp only; walk1))
local macro_rules | `(tactic| tb_start) => `(tactic| with_reducible first | show LeaveK _ _ _ _ _ _ _ | show Mid _ _ _ _ _ _ | show wpAny _ _ (exec (Stmt.While _ _ _ _) _) _ _ _ | show wpAny _ _ (pyIter _) _ _ _ | show wpAny _ _ (call (Value.type "enumerate") _ _) _ _ _ | show KswPost _ _ _ _ _ _ _ _ _ _ _ _ _ _ | show InvPostN _ _ _ _ _ _ _ _ _)
local macro_rules | `(tactic| ktr_step) => `(tactic| ((try k_fold); repeat' (first | (k_unfold; (try dsimp only)) | ((fail_if_success tb_start); tb_rel)); all_goals (try (dsimp only; k_unfold; (try dsimp only)))))
local macro_rules | `(tactic| ktr_enter) => `(tactic| ((try k_fold); repeat' (first | (k_unfold; (try dsimp only)) | ((fail_if_success (first | tb_start | with_reducible first | show wpAny _ _ (exec (Stmt.If _ _ _ _) _) _ _ _)); first | keq_hits | kct_strs | walk1 | (dsimp only; walk1))); all_goals (try (dsimp only; k_unfold; (try dsimp only)))))

example : True := by w_top off; trivial
section
variable {w : World} {mean : ExcName → Option Value} {mg mb : Str → Option Value} {dp un : Nat} {gd : Option (List Code)} {cn : Str} {cs : Scope} {a : Addr} {ccd : Value} {cl : List (Str × Addr)} {outer : List Env} {A₀ : Around} {base h₀ : Heap} {L : Addr} {m : Str → Option Value} {s : Shared} {Q E : Value → Shared → Prop}
theorem reset_line_tells (x dx c r : Nat) (oc : Obj) (n : Nat) (k : Ks) (pos al y cpos col acc st rev buf : Value) (n1 n2 : Option Value) (wd : Int) (twd : Tok)
 (C : Cx w mean mg mb cs outer A₀ base h₀ L m s.heap) (N : News h₀ L s.heap [(x, instObj 557 dx), (dx, dictOf (decEs w.params k pos (.int wd twd) al y (.ref c) (.ref r) cpos col acc st rev buf n1 n2) n), (c, oc)])
 (hxd : x ≠ dx) (hxc : x ≠ c) (hdc : dx ≠ c) (hw0 : 1 ≤ wd) (hw : wd ≤ 12) (hdp : dp + 1 < recursionLimit) (hun : un + 8 < cLine)
 (hret : ∀ c' vs' t1 t2 n' h' tk', IntsAre vs' (List.replicate wd.toNat 1) → Aft s.heap h' [x, dx, c] [(x, instObj 557 dx), (dx, dictOf (decEs w.params k pos (.int wd twd) al y (.ref c') (.ref c) (.int (-1) t1) (.int 1 t2) acc st rev buf n1 n2) n), (c, oc), (c', listOf vs'.toArray n')] → x ≠ c' → dx ≠ c' → c ≠ c' → Q .none { s with heap := h', toks := tk' }) :
 wpAny (model PG w) (ktrTop dp un gd cn cs L a ccd cl outer) (call (.ref 487) [.ref x]) Q E s := by
  obtain ⟨B, F, X, T, hk⟩ := C
  cell_step
  intro g' L' h' FG' F' N' B' X' T' G'
  have F1 : Fr g' L' h' (fun y => List.lookup y [(Str.ofString "self", Value.ref x)]) := F'
  clear F'
  (try dsimp only)
  (try k_fold)
  ktr_step
  (rename Fr _ _ _ _ => lF)
  (rename News _ _ _ _ => lN)
  (rename GSub _ _ _ => lG)
  refine leaveK_ lF lN fun kF kN => ?_
  exact hret _ _ _ _ _ _ _ (ints_flat _ _ _) (aft_of N lG lF (news_sub lN (by k_allIn))) (by omega) (by omega) (by omega)

end

example : True := by w_top off; trivial
theorem ksa_setNeg {prog : Program} {w : World} {A : Around} {E : Value → Shared → Prop} {s : Shared} {h₀ : Heap} {L D : Addr} {m : Str → Option Value} {news news' : List (Addr × Obj)} {vs : List Value} {ns : List Int} {n : Nat} {k x : Int} {t u : Tok} {Q : Unit → Shared → Prop} (F : Fr h₀ L s.heap m) (N : News h₀ L s.heap news) (U : Upd D (listOf vs.toArray n) (listOf (vs.set (k + ns.length).toNat (.int x u)).toArray n) news news') (hi : IntsAre vs ns) (h0 : k < 0) (h1 : -(ns.length : Int) ≤ k) (hfit : -(2 ^ 63) ≤ k)
    (h : ∀ h', Fr h₀ L h' m → News h₀ L h' news' → IntsAre (vs.set (k + ns.length).toNat (.int x u)) (ns.set (k + ns.length).toNat x) → Q () { s with heap := h' }) :
    wpAny (model prog w) A (setItem (.ref D) (.int k t) (.int x u)) Q E s := by
  obtain ⟨pre, post, rfl, rfl, a, b⟩ := U.split
  have z := N (D, listOf vs.toArray n) (List.mem_append.mpr (.inr (.head _)))
  have hl : vs.length = ns.length := hi.length
  have hs : vs.toArray.size = ns.length := by rw [List.size_toArray]; exact hl
  refine ki_setBack z.1 h0 (by rw [hs]; exact h1) hfit (h _ (F.change (Heap.SameBut.update ..) z.2.1 z.2.2) (ki_turn _ N a b ?_ ?_) (ints_set hi _ _ _))
  · show vs.toArray.setIfInBounds (k + vs.toArray.size).toNat (.int x u) = (vs.set (k + ns.length).toNat (.int x u)).toArray
    rw [hs]
    apply Array.toList_inj.mp
    simp
  · simp
theorem ints_fillNeg {q : List Value} {cur : List Int} {v : Int} {a : Nat} {pre : List Int} {kx cp wd : Int} {t : Tok} (h : IntsAre q (fillN cur v a (pre.length - (if cp < 0 then 1 else 0)))) (e : kx = cp + pre.length) (hcp : -1 ≤ cp) (hk : kx < 0) (hl : (cur.length : Int) = wd)
   (hs : cp < 0 → cur.set (wd - 1).toNat v = cur) : IntsAre (q.set (kx + (fillN cur v a (pre.length - (if cp < 0 then 1 else 0))).length).toNat (.int v t)) (fillN cur v a ((pre ++ [kx]).length - (if cp < 0 then 1 else 0))) := by
  have hc : cp = -1 := Int.le_antisymm (Int.le_sub_one_of_lt (Int.lt_of_le_of_lt (le_of_run e) hk)) hcp
  subst hc
  have hp : pre.length = 0 := Nat.lt_one_iff.1 (Int.ofNat_lt.1 (Int.lt_of_add_lt_add_left (a := -1) (show (-1 : Int) + pre.length < 0 by rw [← e]; exact hk)))
  rw [hp] at h ⊢
  rw [List.length_append, List.length_singleton, hp]
  simp only [fillN, Nat.zero_sub] at h ⊢
  have e3 : kx = -1 := by rw [e, hp]; rfl
  have e4 := ints_set h (kx + cur.length).toNat v t
  have e5 : (kx + cur.length).toNat = (wd - 1).toNat := by rw [e3, hl, Int.add_comm]; rfl
  rw [e5, hs (by decide)] at e4
  rw [e5]
  exact e4
theorem ints_fillPos {q : List Value} {cur : List Int} {v : Int} {pre : List Int} {kx cp y0 : Int} {t : Tok} (h : IntsAre q (fillN cur v y0.toNat (pre.length - (if cp < 0 then 1 else 0)))) (e : kx = cp + pre.length) (hcp : -1 ≤ cp) (hk : 0 ≤ kx) (hy : (if cp > 0 then cp else 0) = y0) : IntsAre (q.set kx.toNat (.int v t)) (fillN cur v y0.toNat ((pre ++ [kx]).length - (if cp < 0 then 1 else 0))) := by
  rw [List.length_append, List.length_singleton]
  by_cases hc : cp < 0
  · have h1 : cp = -1 := Int.le_antisymm (Int.le_sub_one_of_lt hc) hcp
    have hn : 1 ≤ pre.length := Int.ofNat_le.1 (Int.le_of_add_le_add_left (a := -1) (show (0 : Int) ≤ -1 + pre.length by rw [← h1, ← e]; exact hk))
    rw [if_pos hc] at h ⊢
    have h2 : pre.length + 1 - 1 = (pre.length - 1) + 1 := (Nat.sub_add_cancel hn).symm
    rw [h2, fillN]
    rw [if_neg (Int.not_lt.2 (Int.le_of_lt hc))] at hy
    have h3 : y0.toNat + (pre.length - 1) = kx.toNat := by rw [← hy, e, h1, Int.add_comm]; exact (Nat.zero_add _).trans (Int.toNat_sub _ 1).symm
    rw [h3]
    exact ints_set h _ _ _
  · rw [if_neg hc] at h ⊢
    rw [Nat.sub_zero, fillN]
    have hy' : y0 = cp := by
      rw [← hy]; split
      · rfl
      · exact Int.le_antisymm (Int.not_lt.1 hc) (Int.not_lt.1 ‹_›)
    have h3 : y0.toNat + pre.length = kx.toNat := by rw [hy', e]; exact toNat_addN (Int.not_lt.1 hc)
    rw [h3]
    exact ints_set h _ _ _

local macro_rules | `(tactic| walk_at "setItem ref int") => `(tactic| (k_here; (with_reducible show wpAny _ _ (setItem (Value.ref _) (Value.int _ _) (Value.int _ _)) _ _ _); k_dflt (refine' ksa_setNeg ?k1 ?k2 ?k3 ?k4 ?k5 ?k6 ?k7 ?_; (case k1 => k_asm); (case k2 => k_asm); (case k3 => k_upd); (case k4 => with_reducible assumption); (case k5 => ksa_idx); (case k6 => ksa_idx); (case k7 => ksa_idx); k_whole); intro hQ FQ NQ hiQ; (try k_sweep)))

example : True := by w_top off; trivial
theorem loopV_mono {prog : Program} {w : World} {A : Around} {h₀ : Heap} {env : Env} {x : Str} {body : List Stmt} {Q₁ Q : Flow → Shared → Prop} {E : Value → Shared → Prop} {it : Value} {s₂ : Shared} (h : LoopAtV prog w A h₀ env x body Q₁ E it s₂) (hq : ∀ f s, Q₁ f s → Q f s) : LoopAtV prog w A h₀ env x body Q E it s₂ := by
  refine wait fun cW hW => ?_
  obtain ⟨I, fp, wr, n, P, St, m, news, J, e, W, hLf, hwr, hnw, hst, F, N, h0, step, hQ⟩ := h
  refine hW ?_
  clear hW cW
  refine ⟨I, fp, wr, n, P, St, m, news, J, e, W, hLf, hwr, hnw, hst, F, N, h0, fun i v m₁ news₁ s₁ own hs hi hP hJ a b c d st F₁ N₁ => wpAny_mono (step i v m₁ news₁ s₁ own hs hi hP hJ a b c d st F₁ N₁) (fun f s z => ?_) fun _ _ x => x, fun h' tk m' news' a b c d => hq _ _ (hQ h' tk m' news' a b c d)⟩
  cases f with
  | ret v => exact hq _ _ z
  | brk => exact hq _ _ z
  | cont => exact z
  | next => exact z
theorem cutL {prog : Program} {w : World} {A : Around} {h₀ : Heap} {env : Env} {x : Str} {body : List Stmt} {Q₁ Q : Flow → Shared → Prop} {E : Value → Shared → Prop} {r : Value} {s : Shared}
   (h : wpAny (model prog w) A (pyIter r) (fun it s₂ => LoopAtV prog w A h₀ env x body Q₁ E it s₂) E s) (hq : ∀ f s, Q₁ f s → Q f s) : wpAny (model prog w) A (pyIter r) (fun it s₂ => LoopAtV prog w A h₀ env x body Q E it s₂) E s := wpAny_mono h (fun _ _ z => loopV_mono z hq) fun _ _ e => e
/-- how many places of wd a run of n from a on fills -/
def roomed (wd a : Int) (n : Int) : Nat := (if a + n ≤ wd then n else wd - a).toNat
theorem kst2v {x z1 : Str} {v w1 : Value} {u m₀ : Str → Option Value} : (fun y => if y = x then some v else kstB (fun z => if ([] : List Str).contains z = true then u z else m₀ z) [(z1, w1)] y) = fun y => if y = x then some v else if y = z1 then some w1 else m₀ y := by
  funext z
  by_cases h : z = x <;> by_cases h2 : z = z1 <;> simp [kstB, h, h2]
theorem kst2 {x z1 : Str} {w1 : Value} {u m₀ : Str → Option Value} : (fun y => if y = x then u y else kstB (fun z => if ([] : List Str).contains z = true then u z else m₀ z) [(z1, w1)] y) = fun y => if y = x then u x else if y = z1 then some w1 else m₀ y := by
  funext z
  by_cases h : z = x
  · subst h; simp
  · by_cases h2 : z = z1
    · subst h2; simp [kstB, h]
    · simp [kstB, h, h2]
theorem roomed_end {wd a n : Int} {j : Nat} (h : wd ≤ a + j) (hj : (j : Int) < n) (h2 : a + j ≤ wd) : roomed wd a n = j := by
  unfold roomed
  split
  · exact absurd (Int.lt_of_le_of_lt h (Int.add_lt_add_left hj a)) (Int.not_lt.2 ‹_›)
  · rw [Int.le_antisymm h h2, Int.add_comm, Int.add_sub_cancel, Int.toNat_natCast]
theorem roomed_le {wd a n : Int} (h : a ≤ wd) (h0 : 0 ≤ n) : (roomed wd a n : Int) ≤ wd - a := by
  unfold roomed
  split
  · rw [Int.toNat_of_nonneg h0]; exact Int.le_sub_left_of_add_le ‹_›
  · rw [Int.toNat_of_nonneg (Int.sub_nonneg_of_le h)]; exact Int.le_refl _
theorem roomed_all {wd a n : Int} (h2 : a + n.toNat ≤ wd) (h0 : 0 ≤ n) : roomed wd a n = n.toNat := by
  unfold roomed
  rw [Int.toNat_of_nonneg h0] at h2
  rw [if_pos h2]
theorem ints_fill2 {q : List Value} {cur : List Int} {v : Int} {a : Int} {pre : List Int} {kx x1 : Int} {t : Tok} (h : IntsAre q (fillN cur v a.toNat pre.length)) (e : x1 = a + pre.length) (h0 : 0 ≤ a) : IntsAre (q.set x1.toNat (.int v t)) (fillN cur v a.toNat (pre ++ [kx]).length) := by
  rw [List.length_append, List.length_singleton, fillN]
  have : a.toNat + pre.length = x1.toNat := by rw [e]; exact toNat_addN h0
  rw [this]
  exact ints_set h _ _ _

local macro_rules | `(tactic| walk_at "call builtin:len") => `(tactic| (k_here; (with_reducible show wpAny _ _ (call (Value.builtin "len") [Value.ref _]) _ _ _); k_dflt (refine' kst_len ?k1 ?k2 ?k3 ?k4 ?_; (case k1 => k_asm); (case k2 => k_memK); (case k3 => with_reducible assumption); (case k4 => omega); k_whole)))

example : True := by w_top off; trivial
inductive KenS {σ : Type} (Led : σ → List (Addr × Obj)) (xi xc : Str) (m₀ : Str → Option Value) (P : List Int → σ → Prop) (pre : List Int) (m : Str → Option Value) (nx : List (Addr × Obj)) : Prop where
  | intro : ∀ c : σ, nx = Led c → ((∀ z, z ≠ xc → z ≠ xi → m z = m₀ z)) → P pre c → KenS Led xi xc m₀ P pre m nx
theorem ken_fr {g h : Heap} {L : Addr} {xi xc : Str} {m₀ m₁ : Str → Option Value} {v w : Option Value} (h2 : ∀ z, z ≠ xc → z ≠ xi → m₁ z = m₀ z) (F : Fr g L h (fun y => if y = xc then v else if y = xi then w else m₁ y)) : Fr g L h (fun y => if y = xc then v else if y = xi then w else m₀ y) :=
  fr_map F (by
    funext z
    by_cases h1 : z = xc
    · rw [if_pos h1, if_pos h1]
    · rw [if_neg h1, if_neg h1]
      by_cases h3 : z = xi
      · rw [if_pos h3, if_pos h3]
      · rw [if_neg h3, if_neg h3]; exact h2 z h1 h3)
section
variable {prog : Program} {w : World} {A : Around} {E : Value → Shared → Prop} {s : Shared} {env : Env} {h₀ : Heap} {xi xc : Str} {body : List Stmt} {Q : Flow → Shared → Prop}
theorem ken_list {σ : Type} {l : Addr} {vs : List Value} {ns : List Int} {nn : Nat} {m₀ : Str → Option Value} (Led : σ → List (Addr × Obj)) (P : List Int → σ → Prop) (c₀ : σ)
    (hh : A.handled = none) (hl : ∀ c : σ, (l, listOf vs.toArray nn) ∈ Led c) (hi : IntsAre vs ns) (F : Fr h₀ env.locals s.heap m₀) (N : News h₀ env.locals s.heap (Led c₀)) (hp : P [] c₀)
    (turn : ∀ (c : σ) pre post n t ti h tk own, ns = pre ++ n :: post → OwnOff own ((Led c₀).map (·.1)) → P pre c →
      Fr h₀ env.locals h (fun y => if y = xc then some (.int n t) else if y = xi then some (.int (pre.length : Int) ti) else m₀ y) → News h₀ env.locals h (Led c ++ own) →
      wpAny (model prog w) A (execs body env) (InvPostN h₀ env.locals (KenS Led xi xc m₀ P (pre ++ [n])) own ((Led c₀).map (·.1)) { s with heap := h, toks := tk } Q) E { s with heap := h, toks := tk })
    (done : ∀ (c : σ) (v u : Option Value) h tk, P ns c → Fr h₀ env.locals h (fun y => if y = xc then v else if y = xi then u else m₀ y) → News h₀ env.locals h (Led c) → Q .next { s with heap := h, toks := tk }) :
    wpAny (model prog w) A (call (.type "enumerate") [.ref l]) (fun xv s₁ => wpAny (model prog w) A (pyIter xv) (fun it s₂ => PairAt3 prog w A h₀ env xi xc body Q E it s₂) E s₁) E s := by
  have hls : s.heap.IsList l vs.toArray := News.isList N (hl c₀)
  refine wait fun cW hW => ?_
  obtain ⟨ol, hol, _⟩ := id hls
  refine hW ?_
  clear hW cW
  have hl2 : l < s.heap.objs.size := Heap.lt_size hol
  have hLs : env.locals < s.heap.objs.size := F.ns.lt
  have hab : h₀.objs.size ≤ env.locals := F.above
  have hlL : l ≠ env.locals := (N _ (hl c₀)).2.1
  have hlo : ∀ q ∈ Led c₀, q.1 < s.heap.objs.size := fun q hq => Heap.lt_size (N q hq).1
  refine call_enumerate_list hls fun h' he hit hsz hk => ?_
  have F' : Fr h₀ env.locals h' m₀ := ⟨F.ns.keeps hk, fun b o e => hk b o (F.keep b o e), F.above⟩
  have N' : News h₀ env.locals h' (Led c₀) := fun p hp => ⟨hk _ _ (N p hp).1, (N p hp).2⟩
  refine wpAny_pyIter_enum he ?_
  have D := Draws.list (prog := prog) (w := w) (A := A.in1) hh s.heap.objs.size l (Nat.ne_of_lt hl2) vs.toArray
  have hef : s.heap.objs.size + 1 ∉ [s.heap.objs.size, l] := fun hm => by
    rcases List.mem_cons.mp hm with e | hm
    · exact Nat.succ_ne_self _ e
    · exact Nat.ne_of_gt (Nat.lt_succ_of_lt hl2) (List.mem_singleton.mp hm)
  refine ⟨s.heap.objs.size + 1, (s.heap.objs.size + 1) :: [s.heap.objs.size, l], [s.heap.objs.size + 1, s.heap.objs.size], vs.toArray.size, _, _, _, (fun i v0 v1 => ∃ t, v0 = .int i t ∧ vs.toArray[i]? = some v1), m₀, Led c₀,
    (fun i m nx => KenS Led xi xc m₀ P (ns.take i) m nx), rfl, WalksT.enumerateD D _ (Nat.succ_ne_self _) hef (by simp), ?_, ?_, ?_, ?_, ⟨⟨_, by simpa using he⟩, hit, hls.at fun o e => hk l o e⟩, F', N', ⟨c₀, rfl, fun _ _ _ => rfl, by simpa using hp⟩, ?_, ?_⟩
  · intro i vals hZ2
    refine wait fun cW hW => ?_
    obtain ⟨t, x, hPx, rfl⟩ := hZ2
    refine hW ?_
    clear hW cW
    exact ⟨_, _, rfl, t, rfl, hPx⟩
  · intro hm
    rcases List.mem_cons.mp hm with e | hm
    · exact Nat.ne_of_lt (Nat.lt_succ_of_lt hLs) e
    · rcases List.mem_cons.mp hm with e | hm
      · exact Nat.ne_of_lt hLs e
      · exact hlL (List.mem_singleton.mp hm).symm
  · intro b hb
    rcases List.mem_cons.mp hb with rfl | hb
    · exact Heap.get?_none_of_le (Nat.le_trans hab (Nat.le_of_lt (Nat.lt_succ_of_lt hLs)))
    · rw [List.mem_singleton.mp hb]
      exact Heap.get?_none_of_le (Nat.le_trans hab (Nat.le_of_lt hLs))
  · intro p hp hb
    have := hlo p hp
    rcases List.mem_cons.mp hb with e | hb
    · exact Nat.ne_of_lt (Nat.lt_succ_of_lt this) e
    · exact Nat.ne_of_lt this (List.mem_singleton.mp hb)
  · intro i v0 v1 m₁ nx s₁ own hZ7 hin hZ9 hZ10 ha hsub F₁ N₁
    refine wait fun cW hW => ?_
    obtain ⟨hs, tks, rfl⟩ := hZ7
    obtain ⟨t, rfl, hPx⟩ := hZ9
    obtain ⟨c, rfl, h2, hp'⟩ := hZ10
    refine hW ?_
    clear hW cW
    have hlen : vs.toArray.size = ns.length := by simp [hi.length]
    have hlt : i < ns.length := hlen ▸ hin
    obtain ⟨tb, hx⟩ := hi.get i ns[i] (List.getElem?_eq_getElem hlt)
    have hv : v1 = .int ns[i] tb := by
      have hP' : vs[i]? = some v1 := by simpa using hPx
      rw [hx] at hP'; exact (Option.some.inj hP').symm
    subst hv
    have hti : (ns.take i).length = i := by rw [List.length_take]; exact Nat.min_eq_left (Nat.le_of_lt hlt)
    have hs' : ns.take (i + 1) = ns.take i ++ [ns[i]] := by rw [List.take_add_one, List.getElem?_eq_getElem hlt]; rfl
    have e : ns = ns.take i ++ ns[i] :: ns.drop (i + 1) := by
      have ht := List.take_append_drop (i + 1) ns
      rw [hs', List.append_assoc] at ht
      exact ht.symm
    have hoff : OwnOff (own.filter fun p => decide (p.1 ≠ l)) ((Led c₀).map (·.1)) := fun p hp b hb e => by
      obtain ⟨hp1, hp2⟩ := List.mem_filter.mp hp
      refine wait fun cW hW => ?_
      obtain ⟨q, hq, e'⟩ := List.mem_map.mp hb
      refine hW ?_
      clear hW cW
      have := hlo q hq
      rw [e', ← e] at this
      have hp2 := of_decide_eq_true hp2
      rcases List.mem_cons.mp (hsub p hp1) with z | z
      · rw [z] at this; exact absurd this (Nat.not_lt.mpr (Nat.le_succ _))
      · rcases List.mem_cons.mp z with z | z
        · rw [z] at this; exact absurd this (Nat.lt_irrefl _)
        · exact hp2 (List.mem_singleton.mp z)
    have F₂ := ken_fr h2 F₁
    have hi' : (Value.int (i : Int) t) = .int ((ns.take i).length : Int) t := by rw [hti]
    rw [hi'] at F₂
    have N₂ : News h₀ env.locals hs (Led c ++ own.filter fun p => decide (p.1 ≠ l)) := fun p hp => by
      rcases List.mem_append.mp hp with z | z
      · exact N₁ p (List.mem_append_right _ z)
      · exact N₁ p (List.mem_append_left _ (List.mem_filter.mp z).1)
    refine wpAny_mono (turn c _ _ ns[i] tb t hs tks _ e hoff hp' F₂ N₂) (fun f s₂ p => ?_) fun _ _ x => x
    have up : InvEndN h₀ env.locals (KenS Led xi xc m₀ P (ns.take i ++ [ns[i]])) (own.filter fun p => decide (p.1 ≠ l)) ((Led c₀).map (·.1)) { s with heap := hs, toks := tks } s₂ →
        LoopStep2 h₀ env.locals own (Led c) (fun m nx => KenS Led xi xc m₀ P (ns.take (i + 1)) m nx) { s with heap := hs, toks := tks } .next s₂ := by
      intro hZ0
      refine wait fun cW hW => ?_
      obtain ⟨h'', tk', m', news', nx', e', F'', N'', hn', ho', ha', hS⟩ := hZ0
      refine hW ?_
      clear hW cW
      refine ⟨rfl, h'', tk', m', nx', e', F'', fun q hq => ?_, ha'.trans ha.symm, hs' ▸ hS⟩
      rcases List.mem_append.mp hq with z | z
      · by_cases hq1 : q.1 = l
        · refine wait fun cW hW => ?_
          obtain ⟨c', rfl, _⟩ := hS
          refine hW ?_
          clear hW cW
          have b1 := (N₁ q (List.mem_append_left _ z)).1
          have b2 := (N₁ _ (List.mem_append_right _ (hl c))).1
          rw [hq1] at b1
          have b3 : q = (l, listOf vs.toArray nn) := Prod.ext hq1 (Option.some.inj (b1.symm.trans b2))
          rw [b3]
          exact N'' _ (hn' _ (hl c'))
        · exact N'' _ (ho' q (List.mem_filter.mpr ⟨z, decide_eq_true hq1⟩))
      · exact N'' _ (hn' q z)
    cases f with
    | ret v => exact p
    | brk => exact p
    | next => exact up p
    | cont => exact up p
  · intro h'' tk m' nx F'' N'' _ hZ7
    refine wait fun cW hW => ?_
    obtain ⟨c, rfl, h2, hp'⟩ := hZ7
    refine hW ?_
    clear hW cW
    have hlen : vs.toArray.size = ns.length := by simp [hi.length]
    rw [hlen, List.take_length] at hp'
    refine done c (m' xc) (m' xi) h'' tk hp' (fr_map F'' ?_) N''
    funext z
    by_cases h1 : z = xc
    · rw [if_pos h1, h1]
    · rw [if_neg h1]
      by_cases h3 : z = xi
      · rw [if_pos h3, h3]
      · rw [if_neg h3]; exact h2 z h1 h3
end
section
variable {prog : Program} {w : World} {A : Around} {E : Value → Shared → Prop} {s : Shared} {env : Env} {h₀ : Heap} {xi xc : Str} {body : List Stmt} {Q : Flow → Shared → Prop}
theorem ken4 {l Aa : Addr} {va vs : List Value} {ns : List Int} {nn na : Nat} {rest : List (Addr × Obj)} {m₀ : Str → Option Value} (P : List Int → List Value → Prop)
    (hh : A.handled = none) (N : News h₀ env.locals s.heap ((Aa, listOf va.toArray na) :: rest)) (hl : (l, listOf vs.toArray nn) ∈ rest) (hi : IntsAre vs ns) (F : Fr h₀ env.locals s.heap m₀) (hp : P [] va)
    (turn : ∀ (q : List Value) pre post n t ti h tk own, ns = pre ++ n :: post → OwnOff own (Aa :: rest.map (·.1)) → P pre q →
      Fr h₀ env.locals h (fun y => if y = xc then some (.int n t) else if y = xi then some (.int (pre.length : Int) ti) else m₀ y) → News h₀ env.locals h ((Aa, listOf q.toArray na) :: rest ++ own) →
      wpAny (model prog w) A (execs body env) (InvPostN h₀ env.locals (KenS (fun q : List Value => (Aa, listOf q.toArray na) :: rest) xi xc m₀ P (pre ++ [n])) own (Aa :: rest.map (·.1)) { s with heap := h, toks := tk } Q) E { s with heap := h, toks := tk })
    (done : ∀ (q : List Value) (v u : Option Value) h tk, P ns q → Fr h₀ env.locals h (fun y => if y = xc then v else if y = xi then u else m₀ y) → News h₀ env.locals h ((Aa, listOf q.toArray na) :: rest) → Q .next { s with heap := h, toks := tk }) :
    wpAny (model prog w) A (call (.type "enumerate") [.ref l]) (fun xv s₁ => wpAny (model prog w) A (pyIter xv) (fun it s₂ => PairAt3 prog w A h₀ env xi xc body Q E it s₂) E s₁) E s :=
  ken_list (σ := List Value) (fun q => (Aa, listOf q.toArray na) :: rest) P va hh (fun _ => List.mem_cons_of_mem _ hl) hi F N hp turn done
theorem news_swap {h₀ h : Heap} {L : Addr} {a b : Addr × Obj} {rest : List (Addr × Obj)} (N : News h₀ L h (a :: b :: rest)) : News h₀ L h (b :: a :: rest) := fun p hp => N p (by
  rcases List.mem_cons.mp hp with rfl | hp
  · exact .tail _ (.head _)
  · rcases List.mem_cons.mp hp with rfl | hp
    · exact .head _
    · exact .tail _ (.tail _ hp))
theorem ken_end {Aa : Addr} {na : Nat} {rest : List (Addr × Obj)} {m₀ : Str → Option Value} {P : List Int → List Value → Prop} {pre : List Int} (q : List Value) {L : Addr} {m' : Str → Option Value} {own news' : List (Addr × Obj)} {s₁ : Shared} {h' : Heap} {tk : Nat}
    (F : Fr h₀ L h' m') (N : News h₀ L h' news') (hn : ∀ p ∈ (Aa, listOf q.toArray na) :: rest, p ∈ news') (ho : ∀ p ∈ own, p ∈ news') (hr : ∀ z, z ≠ xc → z ≠ xi → m' z = m₀ z) (hp : P pre q) :
    InvEndN h₀ L (KenS (fun q : List Value => (Aa, listOf q.toArray na) :: rest) xi xc m₀ P pre) own (Aa :: rest.map (·.1)) s₁ { s₁ with heap := h', toks := tk } :=
  InvEndN.intro F N ⟨q, rfl, hr, hp⟩ rfl hn ho
end
/-- the octets that output_line fills -/
def packStep (acc : List Int) (p : Int × Nat) : List Int := if p.1 ≠ 0 then acc.set (p.2 / 8) (acc.getD (p.2 / 8) 0 + [128, 64, 32, 16, 8, 4, 2, 1].getD (p.2 % 8) 0) else acc
def packs (M : Nat) (bits : List Int) : List Int := bits.zipIdx.foldl packStep (List.replicate M 0)
theorem packs_snoc (M : Nat) (pre : List Int) (b : Int) : packs M (pre ++ [b]) = packStep (packs M pre) (b, pre.length) := by
  simp [packs, List.zipIdx_append, List.foldl_append]
theorem packStep_length (acc : List Int) (p : Int × Nat) : (packStep acc p).length = acc.length := by
  unfold packStep
  split
  · exact List.length_set ..
  · rfl
theorem packs_length (M : Nat) (bits : List Int) : (packs M bits).length = M := by
  have : ∀ (l : List (Int × Nat)) acc, (l.foldl packStep acc).length = acc.length := fun l => by
    induction l with
    | nil => intro acc; rfl
    | cons p l ih => intro acc; rw [List.foldl_cons, ih, packStep_length]
  rw [packs, this, List.length_replicate]
theorem ints_pack {q : List Value} {M : Nat} {pre : List Int} {b : Int} {t : Tok} (h : IntsAre q (packs M pre)) (hb : b ≠ 0) :
   IntsAre (q.set (((pre.length : Int)).fdiv 8).toNat (.int ((packs M pre).getD (((pre.length : Int)).fdiv 8).toNat 0 + [128, 64, 32, 16, 8, 4, 2, 1].getD (((pre.length : Int)).fmod 8).toNat 0) t)) (packs M (pre ++ [b])) := by
  have e1 : (((pre.length : Int)).fdiv 8).toNat = pre.length / 8 := fdiv8 _
  have e2 : (((pre.length : Int)).fmod 8).toNat = pre.length % 8 := fmod8 _
  rw [packs_snoc, packStep, if_pos hb, e1, e2]
  exact ints_set h _ _ _
theorem pack_zero {q : List Value} {M : Nat} {pre : List Int} {b : Int} (h : IntsAre q (packs M pre)) (hb : b = 0) : IntsAre q (packs M (pre ++ [b])) := by
  rw [packs_snoc, packStep, if_neg (by simp [hb])]
  exact h

theorem no_iadd_bytes : typeLookup (.type "bytes") (dunderI "add") = pure none := by kernel_rfl
theorem iadd_bytes {prog : Program} {w : World} {A : Around} {E : Value → Shared → Prop} {s : Shared} {b c : Array UInt8} {t u : Tok} {Q : Value → Shared → Prop} (hsz : b.size + c.size ≤ 16777216) (h : ∀ t' k, Q (.bytes (b ++ c) t') { s with toks := k }) : wpAny (model prog w) A (inplaceOp .Add (.bytes b t) (.bytes c u)) Q E s := by
  refine iconcat_gives (typeIs_bytes s b t) (typeIs_bytes s c u) no_iadd_bytes KBy.noFill_bytes_add KBy.seq_bytes_add FB.slot_bytes_add FB.entry_bytes_add (FB.args_bytes_add_2 _ _) (KBy.gives_bytes_add (KBy.tooLong_not hsz)) ?_
  by_cases hb : b.isEmpty = true
  · rw [if_pos hb]
    have e : b = #[] := Array.isEmpty_iff.1 hb
    have h' := h u s.toks
    rw [e, Array.empty_append] at h'
    exact h'
  · rw [if_neg hb]
    by_cases hc : c.isEmpty = true
    · rw [if_pos hc]
      have e : c = #[] := Array.isEmpty_iff.1 hc
      have h' := h t s.toks
      rw [e, Array.append_empty] at h'
      exact h'
    · rw [if_neg hc]
      exact ⟨by rw [Array.size_append, sizeLine_eq]; exact hsz, h s.toks (s.toks + 1)⟩

local macro_rules | `(tactic| walk_at "call type:bytes") => `(tactic| (k_here; (with_reducible show wpAny _ _ (call (Value.type "bytes") [Value.ref _]) _ _ _); k_dflt (refine' KBa.make_K ?kbaF ?kbaN ?kbah ?kbal ?kbai ?kbar ?kban ?_; (case kbaF => k_asm); (case kbaN => k_asm); (case kbah => rfl); (case kbal => kba_isList); (case kbai => with_reducible assumption); (case kbar => with_reducible assumption); (case kban => ((try rw [packs_length]); omega))); intro _ _ _ FQ NQ _))
local macro_rules | `(tactic| walk_at "inplaceOp Add bytes bytes") => `(tactic| (k_here; (with_reducible show wpAny _ _ (inplaceOp Operator.Add (Value.bytes _ _) (Value.bytes _ _)) _ _ _); (refine iadd_bytes (by (rw [byteArr_size, packs_length]; omega)) ?_); intro _ _))

example : True := by w_top off; trivial
/-- every one is 0 or 1 -/
def Bits (l : List Int) : Prop := ∀ b ∈ l, b = 0 ∨ b = 1
def oct (l : List Int) (j : Nat) : Int :=
  l.getD (8 * j) 0 * 128 + l.getD (8 * j + 1) 0 * 64 + l.getD (8 * j + 2) 0 * 32 + l.getD (8 * j + 3) 0 * 16 + l.getD (8 * j + 4) 0 * 8 + l.getD (8 * j + 5) 0 * 4 + l.getD (8 * j + 6) 0 * 2 + l.getD (8 * j + 7) 0
theorem Bits.getD {l : List Int} (h : Bits l) (i : Nat) : l.getD i 0 = 0 ∨ l.getD i 0 = 1 := by
  rw [List.getD_eq_getElem?_getD]
  cases e : l[i]? with
  | none => exact .inl rfl
  | some b => exact h b (List.mem_of_getElem? e)
theorem Bits.bnd {l : List Int} (h : Bits l) (i : Nat) : 0 ≤ l.getD i 0 ∧ l.getD i 0 ≤ 1 := by
  rcases h.getD i with e | e <;> rw [e] <;> decide
theorem lin8_in {a b c d e f g h : Int} (h0 : 0 ≤ a ∧ a ≤ 1) (h1 : 0 ≤ b ∧ b ≤ 1) (h2 : 0 ≤ c ∧ c ≤ 1) (h3 : 0 ≤ d ∧ d ≤ 1) (h4 : 0 ≤ e ∧ e ≤ 1) (h5 : 0 ≤ f ∧ f ≤ 1) (h6 : 0 ≤ g ∧ g ≤ 1) (h7 : 0 ≤ h ∧ h ≤ 1) : 0 ≤ a * 128 + b * 64 + c * 32 + d * 16 + e * 8 + f * 4 + g * 2 + h ∧ a * 128 + b * 64 + c * 32 + d * 16 + e * 8 + f * 4 + g * 2 + h < 256 := by
  refine ⟨by lia, ?_⟩
  have u : ∀ {x k : Int}, x ≤ 1 → 0 ≤ k → x * k ≤ 1 * k := fun h q => Int.mul_le_mul_of_nonneg_right h q
  exact Int.lt_of_le_of_lt (Int.add_le_add (Int.add_le_add (Int.add_le_add (Int.add_le_add (Int.add_le_add (Int.add_le_add (Int.add_le_add (u h0.2 (by decide)) (u h1.2 (by decide))) (u h2.2 (by decide))) (u h3.2 (by decide))) (u h4.2 (by decide))) (u h5.2 (by decide))) (u h6.2 (by decide))) h7.2) (by decide)
theorem oct_in {l : List Int} (h : Bits l) (j : Nat) : 0 ≤ oct l j ∧ oct l j < 256 :=
  lin8_in (h.bnd _) (h.bnd _) (h.bnd _) (h.bnd _) (h.bnd _) (h.bnd _) (h.bnd _) (h.bnd _)
theorem getD_snoc (l : List Int) (b : Int) (i : Nat) : (l ++ [b]).getD i 0 = if i < l.length then l.getD i 0 else if i = l.length then b else 0 := by
  rw [List.getD_eq_getElem?_getD, List.getD_eq_getElem?_getD]
  by_cases h : i < l.length
  · rw [if_pos h, List.getElem?_append_left h]
  · rw [if_neg h]
    by_cases h2 : i = l.length
    · subst h2; simp
    · rw [if_neg h2, List.getElem?_eq_none (by rw [List.length_append, List.length_singleton]; exact Nat.lt_of_le_of_ne (Nat.not_lt.1 h) (Ne.symm h2))]; rfl
theorem getD_off (l : List Int) {i : Nat} (h : ¬ i < l.length) : l.getD i 0 = 0 := by
  rw [List.getD_eq_getElem?_getD, List.getElem?_eq_none (Nat.not_lt.1 h)]; rfl
theorem snocAt (l : List Int) (b : Int) (i : Nat) : (l ++ [b]).getD i 0 = l.getD i 0 + if i = l.length then b else 0 := by
  rw [getD_snoc]
  by_cases h : i < l.length
  · rw [if_pos h, if_neg (Nat.ne_of_lt h)]; exact (Int.add_zero _).symm
  · rw [if_neg h, getD_off l h]; exact (Int.zero_add _).symm
def lin8 (a b c d e f g h : Int) : Int := a * 128 + b * 64 + c * 32 + d * 16 + e * 8 + f * 4 + g * 2 + h
theorem lin8_add (a b c d e f g h a' b' c' d' e' f' g' h' : Int) : lin8 (a + a') (b + b') (c + c') (d + d') (e + e') (f + f') (g + g') (h + h') = lin8 a b c d e f g h + lin8 a' b' c' d' e' f' g' h' := by
  unfold lin8
  lia
theorem add_cong {a b c : Int} (h : b = c) : a + b = a + c := h ▸ rfl
theorem lin8_zero : lin8 0 0 0 0 0 0 0 0 = 0 := rfl
theorem oct_snoc (l : List Int) (b : Int) (j : Nat) : oct (l ++ [b]) j = oct l j + if j = l.length / 8 then b * [128, 64, 32, 16, 8, 4, 2, 1].getD (l.length % 8) 0 else 0 := by
  show lin8 _ _ _ _ _ _ _ _ = lin8 _ _ _ _ _ _ _ _ + _
  simp only [snocAt]
  rw [lin8_add]
  refine add_cong ?_
  by_cases h : j = l.length / 8
  · rw [if_pos h]
    have h8 : l.length % 8 < 8 := Nat.mod_lt _ (by decide)
    have e : l.length = 8 * j + l.length % 8 := by rw [h]; exact (Nat.div_add_mod _ 8).symm
    generalize l.length % 8 = k at *
    match k, h8 with
    | 0, _ => simp [e, lin8]
    | 1, _ => simp [e, lin8]
    | 2, _ => simp [e, lin8]
    | 3, _ => simp [e, lin8]
    | 4, _ => simp [e, lin8]
    | 5, _ => simp [e, lin8]
    | 6, _ => simp [e, lin8]
    | 7, _ => simp [e, lin8]
  · rw [if_neg h]
    have q : ∀ i, i < 8 → ¬ (8 * j + i = l.length) := fun i hi e => h (by rw [← e, Nat.mul_add_div (by decide) j i, Nat.div_eq_of_lt hi, Nat.add_zero])
    rw [if_neg (show ¬ 8 * j = l.length from q 0 (by decide)), if_neg (q 1 (by decide)), if_neg (q 2 (by decide)), if_neg (q 3 (by decide)), if_neg (q 4 (by decide)), if_neg (q 5 (by decide)), if_neg (q 6 (by decide)), if_neg (q 7 (by decide))]
    exact lin8_zero
theorem oct_nil (j : Nat) : oct [] j = 0 := rfl
theorem packs_eq (M : Nat) (bits : List Int) (hb : Bits bits) (hl : bits.length ≤ 8 * M) : packs M bits = (List.range M).map (oct bits) := by
  have key : ∀ (n : Nat), n ≤ bits.length → packs M (bits.take n) = (List.range M).map (oct (bits.take n)) := by
    intro n
    induction n with
    | zero =>
      intro _
      refine List.ext_getElem (by simp [packs]) fun i h1 h2 => ?_
      simp [packs, oct_nil]
    | succ n ih =>
      intro hn
      have hs : bits.take (n + 1) = bits.take n ++ [bits[n]] := by rw [List.take_add_one, List.getElem?_eq_getElem hn]; rfl
      have hlen : (bits.take n).length = n := by rw [List.length_take]; exact Nat.min_eq_left (Nat.le_of_succ_le hn)
      rw [hs, packs_snoc, ih (Nat.le_of_succ_le hn)]
      have hbn : bits[n] = 0 ∨ bits[n] = 1 := hb _ (List.getElem_mem _)
      have hM : n / 8 < M := Nat.div_lt_of_lt_mul (Nat.lt_of_lt_of_le hn hl)
      unfold packStep
      rcases hbn with h0 | h1
      · rw [h0, if_neg (by simp)]
        refine List.map_congr_left fun j _ => ?_
        rw [oct_snoc]
        simp
      · rw [h1, if_pos (show (1 : Int) ≠ 0 by decide), hlen]
        refine List.ext_getElem (by simp) fun i a1 a2 => ?_
        have hi : i < M := by simpa using a2
        rw [List.getElem_set]
        by_cases e : n / 8 = i
        · rw [if_pos e]
          subst e
          simp [oct_snoc, hlen, hM]
        · rw [if_neg e]
          simp only [List.getElem_map, List.getElem_range, oct_snoc, hlen]
          rw [if_neg (fun q => e q.symm)]
          simp
  have := key bits.length (Nat.le_refl _)
  rwa [List.take_length] at this
theorem packs_in {M : Nat} {bits : List Int} (hb : Bits bits) (hl : bits.length ≤ 8 * M) : KBa.In (packs M bits) := by
  rw [packs_eq M bits hb hl]
  intro v hv
  obtain ⟨j, _, rfl⟩ := List.mem_map.mp hv
  exact oct_in hb j
theorem Bits.flip {l : List Int} (h : Bits l) : Bits (l.map fun b => 1 - b) := by
  intro b hb
  obtain ⟨c, hc, rfl⟩ := List.mem_map.mp hb
  rcases h c hc with e | e <;> rw [e]
  · exact .inr rfl
  · exact .inl rfl
theorem Bits.set {l : List Int} (h : Bits l) (i : Nat) {v : Int} (hv : v = 0 ∨ v = 1) : Bits (l.set i v) := fun b hb => by
  rcases List.mem_or_eq_of_mem_set hb with q | q
  · exact h b q
  · rw [q]; exact hv
theorem Bits.fill {l : List Int} (h : Bits l) {v : Int} (hv : v = 0 ∨ v = 1) (a : Nat) : ∀ k, Bits (fillN l v a k)
  | 0 => h
  | k + 1 => (Bits.fill h hv a k).set _ hv
theorem Bits.ones (n : Nat) : Bits (List.replicate n 1) := fun b hb => .inr (List.eq_of_mem_replicate hb)
theorem packs_row {cur : List Int} (rv : Bool) {wd : Int} (hl : (cur.length : Int) = wd) (hb : Bits cur) : KBa.In (packs ((cur.length + 7 : Int).fdiv 8).toNat (if rv then cur.map (fun b => 1 - b) else cur)) := by
  have hM : cur.length ≤ 8 * ((cur.length + 7 : Int).fdiv 8).toNat := le_up8 _
  cases rv
  · exact packs_in hb hM
  · exact packs_in hb.flip (by rw [if_pos rfl, List.length_map]; exact hM)

example : True := by w_top off; trivial
section
variable {w : World} {mean : ExcName → Option Value} {mg mb : Str → Option Value} {dp un : Nat} {gd : Option (List Code)} {cn : Str} {cs : Scope} {a : Addr} {ccd : Value} {cl : List (Str × Addr)} {outer : List Env} {A₀ : Around} {base h₀ : Heap} {L : Addr} {m : Str → Option Value} {s : Shared} {Q E : Value → Shared → Prop}
theorem do_vertical_tells (x dx c r : Nat) (n nc nr : Nat) (k : Ks) (pos al y acc st rev buf : Value) (n1 n2 : Option Value) (vc vr : List Value) (cur rf : List Int) (wd cp col d : Int) (twd tcp tcol td : Tok)
 (C : Cx w mean mg mb cs outer A₀ base h₀ L m s.heap) (N : News h₀ L s.heap [(x, instObj 557 dx), (dx, dictOf (decEs w.params k pos (.int wd twd) al y (.ref c) (.ref r) (.int cp tcp) (.int col tcol) acc st rev buf n1 n2) n), (c, listOf vc.toArray nc), (r, listOf vr.toArray nr)])
 (hxd : x ≠ dx) (hxc : x ≠ c) (hdc : dx ≠ c) (hxr : x ≠ r) (hdr : dx ≠ r) (hcr : c ≠ r) (hw0 : 1 ≤ wd) (hw : wd ≤ 12) (hlr : (rf.length : Int) = wd) (hlc : (cur.length : Int) = wd) (hic : IntsAre vc cur) (hir : IntsAre vr rf)
 (hcp : -1 ≤ cp) (hcp2 : cp < wd) (hcol : col = 0 ∨ col = 1) (hd1 : -3 ≤ d) (hd2 : d ≤ 3) (hdp : dp + 2 < recursionLimit) (hun : un + 30 < cLine)
 (hret : ∀ x1 y1 vc' t1 t2 h' tk', IsFirst (stop1 rf col) (cp + 1) x1 → x1 ≤ wd → y1 = (if (if x1 + d < wd then x1 + d else wd) > 0 then (if x1 + d < wd then x1 + d else wd) else 0) →
   IntsAre vc' (if y1 < (if cp > 0 then cp else 0) then fillN cur col y1.toNat ((if cp > 0 then cp else 0) - y1).toNat else fillN cur col (if cp > 0 then cp else 0).toNat (y1 - (if cp > 0 then cp else 0)).toNat) →
   Aft s.heap h' [x, dx, c, r] [(x, instObj 557 dx), (dx, dictOf (decEs w.params k pos (.int wd twd) al y (.ref c) (.ref r) (.int y1 t1) (.int (1 - col) t2) acc st rev buf n1 n2) n), (c, listOf vc'.toArray nc), (r, listOf vr.toArray nr)] → Q .none { s with heap := h', toks := tk' }) :
 wpAny (model PG w) (ktrTop dp un gd cn cs L a ccd cl outer) (call (.ref 501) [.ref x, .int d td]) Q E s := by
  refine wait fun cW hW => ?_
  obtain ⟨B, F, X, T, hk⟩ := C
  refine hW ?_
  clear hW cW
  have hdp0 : dp < 1000 := Nat.lt_of_le_of_lt (Nat.le_add_right dp 2) hdp
  have hz62 := len62 hlr hw
  cell_step
  intro g' L' h' FG' F' N' B' X' T' G'
  have F1 : Fr g' L' h' (fun y => List.lookup y [(Str.ofString "dx", Value.int d td), (Str.ofString "self", Value.ref x)]) := F'
  clear F'
  (try dsimp only)
  (try k_fold)
  ktr_step
  refine cut (Q₁ := Mid g' L' s fun f mp cells => f = .next ∧ ∃ x1 t, mp = (fun y => if y = Str.ofString "x1" then some (.int x1 t) else List.lookup y [(Str.ofString "dx", Value.int d td), (Str.ofString "self", Value.ref x)]) ∧
    cells = [(x, instObj 557 dx), (dx, dictOf (decEs w.params k pos (.int wd twd) al y (.ref c) (.ref r) (.int cp tcp) (.int col tcol) acc st rev buf n1 n2) n), (c, listOf vc.toArray nc), (r, listOf vr.toArray nr)] ∧ IsFirst (stop1 rf col) (cp + 1) x1 ∧ x1 ≤ wd) ?loop ?after
  case loop =>
    (rename Fr _ _ _ _ => lF)
    (rename News _ _ _ _ => lN)
    (try clear F1)
    with_unfolding_all
     refine' ksw_while (σ := Int × Tok) (fun _ => [(x, instObj 557 dx), (dx, dictOf (decEs w.params k pos (.int wd twd) al y (.ref c) (.ref r) (.int cp tcp) (.int col tcol) acc st rev buf n1 n2) n), (c, listOf vc.toArray nc), (r, listOf vr.toArray nr)])
      (fun q => [(Str.ofString "x1", .int q.1 q.2)]) (fun _ => True) [] (fun q => cp + 1 ≤ q.1 ∧ q.1 ≤ wd ∧ ∀ y, cp + 1 ≤ y → y < q.1 → ¬ stop1 rf col y) (fun q => (wd - q.1).toNat) (cp + 1, _) lF lN trivial ?kk ?kp ?turn ?he
    case he => passes_own
    case kk => kst_all
    case kp => exact ⟨Int.le_refl _, hcp2, fun y h1 h2 => absurd h2 (Int.not_lt.2 h1)⟩
    case turn =>
      intro hZ0 u kh ktk _ hZ5 kFr kNews
      refine wait fun cW hW => ?_
      obtain ⟨x1, t1⟩ := hZ0
      obtain ⟨hx1, hx2, hx3⟩ := hZ5
      refine hW ?_
      clear hW cW
      dsimp only at kFr hx1 hx2 hx3
      rw [kst1] at kFr
      clear lF lN
      ktr_enter
      (rename Fr _ _ _ _ => lF)
      (rename News _ _ _ _ => lN)
      refine cut (Q₁ := Mid g' L' s fun f mp cells => mp = (fun y => if y = Str.ofString "x1" then some (.int x1 t1) else List.lookup y [(Str.ofString "dx", Value.int d td), (Str.ofString "self", Value.ref x)]) ∧
        cells = [(x, instObj 557 dx), (dx, dictOf (decEs w.params k pos (.int wd twd) al y (.ref c) (.ref r) (.int cp tcp) (.int col tcol) acc st rev buf n1 n2) n), (c, listOf vc.toArray nc), (r, listOf vr.toArray nr)] ∧
        ((f = .brk ∧ stop1 rf col x1) ∨ (f = .next ∧ ¬ stop1 rf col x1))) ?tst ?go
      case tst =>
        have hx0 := cp1_nn hcp hx1
        have hx63 := w63 hw hx2
        have hx64 : x1 - 1 < 2 ^ 63 := Int.lt_trans (Int.sub_lt_self x1 Int.one_pos) hx63
        have hxl : x1 - 1 < rf.length := by rw [hlr]; exact Int.sub_one_lt_iff.2 hx2
        ktr_step
        all_goals clear hx0 hx63 hx64 hxl hz62 hdp0
        all_goals (rename Fr _ _ _ _ => lF)
        all_goals (rename News _ _ _ _ => lN)
        all_goals refine Mid.mk lF lN ⟨rfl, rfl, ?_⟩
        all_goals (first | (refine .inl ⟨rfl, ?_⟩; unfold stop1; (try dsimp only at *); simp_all; done) | (refine .inr ⟨rfl, ?_⟩; unfold stop1;  (try dsimp only at *); simp_all; done) | skip)
      case go =>
        intro f s₂ hZ2
        refine wait fun cW hW => ?_
        obtain ⟨kh2, tk2, mp, cells, rfl, F2, N2, rfl, rfl, hP⟩ := hZ2
        refine hW ?_
        clear hW cW
        rcases hP with ⟨rfl, hs⟩ | ⟨rfl, hs⟩
        · (try dsimp only [KswPost])
          exact Mid.mk F2 N2 ⟨rfl, x1, t1, rfl, rfl, ⟨hx1, hs, hx3⟩, hx2⟩
        · have hlt := stop1_lt hs hlr hw0 hx2
          (try clear lF); (try clear lN); (try clear kFr); (try clear kNews)
          (try dsimp only)
          ktr_step
          (rename Fr _ _ _ _ => lF)
          (rename News _ _ _ _ => lN)
          refine ksw_end (x1 + 1, _) lF lN (by k_allIn) trivial (by kst_all) (by ksw_same) ⟨Int.le_trans hx1 (Int.le_of_lt (Int.lt_add_one_of_le (Int.le_refl x1))), hlt, fun y h1 h2 => ?_⟩ (tnD1 hlt)
          by_cases e : y = x1
          · exact e ▸ hs
          · exact hx3 y h1 (lt_ne (Int.lt_add_one_iff.1 h2) e)
  case after =>
    intro f s₂ hZ2
    refine wait fun cW hW => ?_
    obtain ⟨kh2, tk2, mp, cells, rfl, F2, N2, rfl, x1, t1, rfl, rfl, hx1, hx2⟩ := hZ2
    refine hW ?_
    clear hW cW
    (try clear F1); (try clear N')
    (try dsimp only)
    ktr_enter
    (rename Fr _ _ _ _ => lF)
    (rename News _ _ _ _ => lN)
    generalize e1 : (if (if x1 + d < wd then x1 + d else wd) > 0 then (if x1 + d < wd then x1 + d else wd) else 0) = y1 at *
    generalize e0 : (if cp > 0 then cp else 0) = y0 at *
    have hy1 : 0 ≤ y1 ∧ y1 ≤ wd := by rw [← e1]; exact clamp_in (Int.le_of_lt (Int.lt_of_lt_of_le Int.one_pos hw0))
    have hy0 : 0 ≤ y0 ∧ y0 < wd ∧ cp ≤ y0 := by rw [← e0]; exact pos_in hw0 hcp2
    simp only [if_dup1, if_dup2, if_dup3] at lF
    refine cut (Q₁ := Mid g' L' s fun f mp cells => f = .next ∧ ∃ vx t0 t1 vc', mp = (fun y => if y = Str.ofString "x" then vx else if y = Str.ofString "x1" then some (.int y1 t1) else if y = Str.ofString "x0" then some (.int y0 t0) else List.lookup y [(Str.ofString "dx", Value.int d td), (Str.ofString "self", Value.ref x)]) ∧
      cells = [(x, instObj 557 dx), (dx, dictOf (decEs w.params k pos (.int wd twd) al y (.ref c) (.ref r) (.int cp tcp) (.int col tcol) acc st rev buf n1 n2) n), (c, listOf vc'.toArray nc), (r, listOf vr.toArray nr)] ∧ IntsAre vc' (if y1 < y0 then fillN cur col y1.toNat (y0 - y1).toNat else fillN cur col y0.toNat (y1 - y0).toNat)) ?lp ?go
    case lp =>
      ktr_step
      · (rename Fr _ _ _ _ => lF)
        (rename News _ _ _ _ => lN)
        (rename IsRange _ _ _ _ _ _ _ _ => rgX)
        with_unfolding_all
         refine' kst_range (σ := List Value) (fun q => [(x, instObj 557 dx), (dx, dictOf (decEs w.params k pos (.int wd twd) al y (.ref c) (.ref r) (.int cp tcp) (.int col tcol) acc st rev buf n1 n2) n), (c, listOf q.toArray nc), (r, listOf vr.toArray nr)])
          (fun _ => []) (fun _ => True) [] (fun pre q => IntsAre q (fillN cur col y1.toNat pre.length)) vc (by rfl) rgX ?hsmall (rangeSize_nat _ _) lF lN trivial ?hk ?hp ?turn ?done
        case hsmall => exact small_one (n62 (n1_of hy1.1)) (w62 hw hy1.2) (n62 (n1_of hy0.1)) (w62 hw (Int.le_of_lt hy0.2.1))
        case hk => intro p hp; cases hp
        case hp => exact hic
        case turn =>
          intro q pre kx tkx u kh ktk own kEq kLt kOff _ kInv kFr kNews
          rw [kst0v] at kFr
          (try clear lF); (try clear lN)
          have hl1 := kInv.length
          rw [fillN_length] at hl1
          (try simp only [List.cons_append, List.nil_append] at kNews)
          have q0 : 0 ≤ kx := Int.le_trans hy1.1 (le_of_run kEq)
          have q3 : kx < wd := Int.lt_trans (lt_of_run kEq kLt) hy0.2.1
          have q1 : kx < (fillN cur col y1.toNat pre.length).length := by rw [fillN_length, hlc]; exact q3
          have q2 := w63 hw (Int.le_of_lt q3)
          ktr_step
          (rename Fr _ _ _ _ => lF)
          (rename News _ _ _ _ => lN)
          (try dsimp only [InvPostN])
          exact kst_end (q.set kx.toNat (.int col tcol)) lF lN (by k_allIn) (fun p hp => .tail _ (.tail _ (.tail _ (.tail _ hp)))) rfl trivial (fun _ hp => nomatch hp) (fun z hz _ _ => if_neg hz) (ints_fill kInv kEq hy1.1 rfl)
        case done =>
          intro q u kh ktk _ kInv kFr kNews
          rw [kst0] at kFr
          (try clear lF); (try clear lN)
          (try dsimp only)
          ktr_step
          (rename Fr _ _ _ _ => lF)
          (rename News _ _ _ _ => lN)
          rw [rangeKs_length] at kInv
          exact Mid.mk lF lN ⟨rfl, _, _, _, _, rfl, rfl, by rw [if_pos (by with_reducible assumption)]; exact kInv⟩
      · (rename Fr _ _ _ _ => lF)
        (rename News _ _ _ _ => lN)
        (rename IsRange _ _ _ _ _ _ _ _ => rgX)
        with_unfolding_all
         refine' kst_range (σ := List Value) (fun q => [(x, instObj 557 dx), (dx, dictOf (decEs w.params k pos (.int wd twd) al y (.ref c) (.ref r) (.int cp tcp) (.int col tcol) acc st rev buf n1 n2) n), (c, listOf q.toArray nc), (r, listOf vr.toArray nr)])
          (fun _ => []) (fun _ => True) [] (fun pre q => IntsAre q (fillN cur col y0.toNat pre.length)) vc (by rfl) rgX ?hsmall (rangeSize_nat _ _) lF lN trivial ?hk ?hp ?turn ?done
        case hsmall => exact small_one (n62 (n1_of hy0.1)) (w62 hw (Int.le_of_lt hy0.2.1)) (n62 (n1_of hy1.1)) (w62 hw hy1.2)
        case hk => intro p hp; cases hp
        case hp => exact hic
        case turn =>
          intro q pre kx tkx u kh ktk own kEq kLt kOff _ kInv kFr kNews
          rw [kst0v] at kFr
          (try clear lF); (try clear lN)
          have hl1 := kInv.length
          rw [fillN_length] at hl1
          (try simp only [List.cons_append, List.nil_append] at kNews)
          have q0 : 0 ≤ kx := Int.le_trans hy0.1 (le_of_run kEq)
          have q3 : kx < wd := Int.lt_of_lt_of_le (lt_of_run kEq kLt) hy1.2
          have q1 : kx < (fillN cur col y0.toNat pre.length).length := by rw [fillN_length, hlc]; exact q3
          have q2 := w63 hw (Int.le_of_lt q3)
          ktr_step
          (rename Fr _ _ _ _ => lF)
          (rename News _ _ _ _ => lN)
          (try dsimp only [InvPostN])
          exact kst_end (q.set kx.toNat (.int col tcol)) lF lN (by k_allIn) (fun p hp => .tail _ (.tail _ (.tail _ (.tail _ hp)))) rfl trivial (fun _ hp => nomatch hp) (fun z hz _ _ => if_neg hz) (ints_fill kInv kEq hy0.1 rfl)
        case done =>
          intro q u kh ktk _ kInv kFr kNews
          rw [kst0] at kFr
          (try clear lF); (try clear lN)
          (try dsimp only)
          ktr_step
          (rename Fr _ _ _ _ => lF)
          (rename News _ _ _ _ => lN)
          rw [rangeKs_length] at kInv
          exact Mid.mk lF lN ⟨rfl, _, _, _, _, rfl, rfl, by rw [if_neg (Int.not_lt.2 (Int.le_of_lt (by with_reducible assumption : y0 < y1)))]; exact kInv⟩
      · (rename Fr _ _ _ _ => lF)
        (rename News _ _ _ _ => lN)
        have e : y1 = y0 := Int.le_antisymm (Int.not_lt.1 (by with_reducible assumption)) (Int.not_lt.1 (by with_reducible assumption))
        exact Mid.mk (fr_map lF (mp_none rfl)) lN ⟨rfl, _, _, _, _, rfl, rfl, by rw [e, if_neg (Int.lt_irrefl _), Int.sub_self]; exact hic⟩
    case go =>
      intro f s₂ hZ2
      refine wait fun cW hW => ?_
      obtain ⟨kh2, tk2, mp, cells, rfl, F2, N2, rfl, vx, t0, t1, vc', rfl, rfl, hi2⟩ := hZ2
      refine hW ?_
      clear hW cW
      (try clear lF); (try clear lN)
      (try dsimp only)
      ktr_step
      (rename Fr _ _ _ _ => lF)
      (rename News _ _ _ _ => lN)
      refine leaveK_ lF lN fun kF kN => ?_
      show Q .none _
      exact hret x1 y1 _ _ _ _ _ hx1 hx2 e1.symm hi2 (aft_of N G' lF lN)
end

example : True := by w_top off; trivial
section
variable {w : World} {mean : ExcName → Option Value} {mg mb : Str → Option Value} {dp un : Nat} {gd : Option (List Code)} {cn : Str} {cs : Scope} {a : Addr} {ccd : Value} {cl : List (Str × Addr)} {outer : List Env} {A₀ : Around} {base h₀ : Heap} {L : Addr} {m : Str → Option Value} {s : Shared} {Q E : Value → Shared → Prop}
theorem do_pass_tells (x dx c r : Nat) (n nc nr : Nat) (k : Ks) (pos al y acc st rev buf : Value) (n1 n2 : Option Value) (vc vr : List Value) (cur rf : List Int) (wd cp col : Int) (twd tcp tcol : Tok)
 (C : Cx w mean mg mb cs outer A₀ base h₀ L m s.heap) (N : News h₀ L s.heap [(x, instObj 557 dx), (dx, dictOf (decEs w.params k pos (.int wd twd) al y (.ref c) (.ref r) (.int cp tcp) (.int col tcol) acc st rev buf n1 n2) n), (c, listOf vc.toArray nc), (r, listOf vr.toArray nr)])
 (hxd : x ≠ dx) (hxc : x ≠ c) (hdc : dx ≠ c) (hxr : x ≠ r) (hdr : dx ≠ r) (hcr : c ≠ r) (hw0 : 1 ≤ wd) (hw : wd ≤ 12) (hlr : (rf.length : Int) = wd) (hlc : (cur.length : Int) = wd) (hic : IntsAre vc cur) (hir : IntsAre vr rf)
 (hcp : -1 ≤ cp) (hcp2 : cp < wd) (hcol : col = 0 ∨ col = 1) (hneg : cp < 0 → cur.set (wd - 1).toNat col = cur) (hdp : dp + 2 < recursionLimit) (hun : un + 30 < cLine)
 (hret : ∀ x1 x2 vc' t1 h' tk', IsFirst (stop1 rf col) (cp + 1) x1 → x1 ≤ wd → IsFirst (stop2 rf col) x1 x2 → x2 ≤ wd →
   IntsAre vc' (fillN cur col (if cp > 0 then cp else 0).toNat (x2 - (if cp > 0 then cp else 0)).toNat) →
   Aft s.heap h' [x, dx, c, r] [(x, instObj 557 dx), (dx, dictOf (decEs w.params k pos (.int wd twd) al y (.ref c) (.ref r) (.int x2 t1) (.int col tcol) acc st rev buf n1 n2) n), (c, listOf vc'.toArray nc), (r, listOf vr.toArray nr)] → Q .none { s with heap := h', toks := tk' }) :
 wpAny (model PG w) (ktrTop dp un gd cn cs L a ccd cl outer) (call (.ref 508) [.ref x]) Q E s := by
  refine wait fun cW hW => ?_
  obtain ⟨B, F, X, T, hk⟩ := C
  refine hW ?_
  clear hW cW
  have hdp0 : dp < 1000 := Nat.lt_of_le_of_lt (Nat.le_add_right dp 2) hdp
  have hz62 := len62 hlr hw
  cell_step
  intro g' L' h' FG' F' N' B' X' T' G'
  have F1 : Fr g' L' h' (fun y => List.lookup y [(Str.ofString "self", Value.ref x)]) := F'
  clear F'
  (try dsimp only)
  (try k_fold)
  ktr_step
  refine cut (Q₁ := Mid g' L' s fun f mp cells => f = .next ∧ ∃ x1 t, mp = (fun y => if y = Str.ofString "x1" then some (.int x1 t) else List.lookup y [(Str.ofString "self", Value.ref x)]) ∧
    cells = [(x, instObj 557 dx), (dx, dictOf (decEs w.params k pos (.int wd twd) al y (.ref c) (.ref r) (.int cp tcp) (.int col tcol) acc st rev buf n1 n2) n), (c, listOf vc.toArray nc), (r, listOf vr.toArray nr)] ∧ IsFirst (stop1 rf col) (cp + 1) x1 ∧ x1 ≤ wd) ?loop ?after
  case loop =>
    (rename Fr _ _ _ _ => lF)
    (rename News _ _ _ _ => lN)
    (try clear F1)
    with_unfolding_all
     refine' ksw_while (σ := Int × Tok) (fun _ => [(x, instObj 557 dx), (dx, dictOf (decEs w.params k pos (.int wd twd) al y (.ref c) (.ref r) (.int cp tcp) (.int col tcol) acc st rev buf n1 n2) n), (c, listOf vc.toArray nc), (r, listOf vr.toArray nr)])
      (fun q => [(Str.ofString "x1", .int q.1 q.2)]) (fun _ => True) [] (fun q => cp + 1 ≤ q.1 ∧ q.1 ≤ wd ∧ ∀ y, cp + 1 ≤ y → y < q.1 → ¬ stop1 rf col y) (fun q => (wd - q.1).toNat) (cp + 1, _) lF lN trivial ?kk ?kp ?turn ?he
    case he => passes_own
    case kk => kst_all
    case kp => exact ⟨Int.le_refl _, hcp2, fun y h1 h2 => absurd h2 (Int.not_lt.2 h1)⟩
    case turn =>
      intro hZ0 u kh ktk _ hZ5 kFr kNews
      refine wait fun cW hW => ?_
      obtain ⟨x1, t1⟩ := hZ0
      obtain ⟨hx1, hx2, hx3⟩ := hZ5
      refine hW ?_
      clear hW cW
      dsimp only at kFr hx1 hx2 hx3
      rw [kst1] at kFr
      clear lF lN
      ktr_enter
      (rename Fr _ _ _ _ => lF)
      (rename News _ _ _ _ => lN)
      refine cut (Q₁ := Mid g' L' s fun f mp cells => mp = (fun y => if y = Str.ofString "x1" then some (.int x1 t1) else List.lookup y [(Str.ofString "self", Value.ref x)]) ∧
        cells = [(x, instObj 557 dx), (dx, dictOf (decEs w.params k pos (.int wd twd) al y (.ref c) (.ref r) (.int cp tcp) (.int col tcol) acc st rev buf n1 n2) n), (c, listOf vc.toArray nc), (r, listOf vr.toArray nr)] ∧
        ((f = .brk ∧ stop1 rf col x1) ∨ (f = .next ∧ ¬ stop1 rf col x1))) ?tst ?go
      case tst =>
        have hx0 := cp1_nn hcp hx1
        have hx63 := w63 hw hx2
        have hx64 : x1 - 1 < 2 ^ 63 := Int.lt_trans (Int.sub_lt_self x1 Int.one_pos) hx63
        have hxl : x1 - 1 < rf.length := by rw [hlr]; exact Int.sub_one_lt_iff.2 hx2
        ktr_step
        all_goals clear hx0 hx63 hx64 hxl hz62 hdp0
        all_goals (rename Fr _ _ _ _ => lF)
        all_goals (rename News _ _ _ _ => lN)
        all_goals refine Mid.mk lF lN ⟨rfl, rfl, ?_⟩
        all_goals (first | (refine .inl ⟨rfl, ?_⟩; unfold stop1; (try dsimp only at *); simp_all; done) | (refine .inr ⟨rfl, ?_⟩; unfold stop1;  (try dsimp only at *); simp_all; done) | skip)
      case go =>
        intro f s₂ hZ2
        refine wait fun cW hW => ?_
        obtain ⟨kh2, tk2, mp, cells, rfl, F2, N2, rfl, rfl, hP⟩ := hZ2
        refine hW ?_
        clear hW cW
        rcases hP with ⟨rfl, hs⟩ | ⟨rfl, hs⟩
        · (try dsimp only [KswPost])
          exact Mid.mk F2 N2 ⟨rfl, x1, t1, rfl, rfl, ⟨hx1, hs, hx3⟩, hx2⟩
        · have hlt := stop1_lt hs hlr hw0 hx2
          (try clear lF); (try clear lN); (try clear kFr); (try clear kNews)
          (try dsimp only)
          ktr_step
          (rename Fr _ _ _ _ => lF)
          (rename News _ _ _ _ => lN)
          refine ksw_end (x1 + 1, _) lF lN (by k_allIn) trivial (by kst_all) (by ksw_same) ⟨Int.le_trans hx1 (Int.le_of_lt (Int.lt_add_one_of_le (Int.le_refl x1))), hlt, fun y h1 h2 => ?_⟩ (tnD1 hlt)
          by_cases e : y = x1
          · exact e ▸ hs
          · exact hx3 y h1 (lt_ne (Int.lt_add_one_iff.1 h2) e)
  case after =>
    intro f s₂ hZ2
    refine wait fun cW hW => ?_
    obtain ⟨kh2, tk2, mp, cells, rfl, F2, N2, rfl, x1, t1, rfl, rfl, hx1, hx2⟩ := hZ2
    refine hW ?_
    clear hW cW
    (try clear F1); (try clear N')
    (try dsimp only)
    have hx0 : cp + 1 ≤ x1 := hx1.1
    have hx00 := cp1_nn hcp hx0
    ktr_step
    refine cut (Q₁ := Mid g' L' s fun f mp cells => f = .next ∧ ∃ x2 t, mp = (fun y => if y = Str.ofString "x1" then some (.int x2 t) else List.lookup y [(Str.ofString "self", Value.ref x)]) ∧
     cells = [(x, instObj 557 dx), (dx, dictOf (decEs w.params k pos (.int wd twd) al y (.ref c) (.ref r) (.int cp tcp) (.int col tcol) acc st rev buf n1 n2) n), (c, listOf vc.toArray nc), (r, listOf vr.toArray nr)] ∧ IsFirst (stop2 rf col) x1 x2 ∧ x2 ≤ wd) ?loop2 ?after2
    case loop2 =>
      (rename Fr _ _ _ _ => lF)
      (rename News _ _ _ _ => lN)
      (try clear F1)
      with_unfolding_all
       refine' ksw_while (σ := Int × Tok) (fun _ => [(x, instObj 557 dx), (dx, dictOf (decEs w.params k pos (.int wd twd) al y (.ref c) (.ref r) (.int cp tcp) (.int col tcol) acc st rev buf n1 n2) n), (c, listOf vc.toArray nc), (r, listOf vr.toArray nr)])
        (fun q => [(Str.ofString "x1", .int q.1 q.2)]) (fun _ => True) [] (fun q => x1 ≤ q.1 ∧ q.1 ≤ wd ∧ ∀ y, x1 ≤ y → y < q.1 → ¬ stop2 rf col y) (fun q => (wd - q.1).toNat) (x1, _) lF lN trivial ?kk ?kp ?turn ?he
      case he => passes_own
      case kk => kst_all
      case kp => exact ⟨Int.le_refl _, hx2, fun y h1 h2 => absurd h2 (Int.not_lt.2 h1)⟩
      case turn =>
        intro hZ0 u kh ktk _ hZ5 kFr kNews
        refine wait fun cW hW => ?_
        obtain ⟨x2, t2⟩ := hZ0
        obtain ⟨hz1, hz2, hz3⟩ := hZ5
        refine hW ?_
        clear hW cW
        dsimp only at kFr hz1 hz2 hz3
        rw [kst1] at kFr
        clear lF lN
        ktr_enter
        (rename Fr _ _ _ _ => lF)
        (rename News _ _ _ _ => lN)
        refine cut (Q₁ := Mid g' L' s fun f mp cells => mp = (fun y => if y = Str.ofString "x1" then some (.int x2 t2) else List.lookup y [(Str.ofString "self", Value.ref x)]) ∧
          cells = [(x, instObj 557 dx), (dx, dictOf (decEs w.params k pos (.int wd twd) al y (.ref c) (.ref r) (.int cp tcp) (.int col tcol) acc st rev buf n1 n2) n), (c, listOf vc.toArray nc), (r, listOf vr.toArray nr)] ∧
          ((f = .brk ∧ stop2 rf col x2) ∨ (f = .next ∧ ¬ stop2 rf col x2))) ?tst ?go
        case tst =>
          have hx0 := Int.le_trans hx00 hz1
          have hx63 := w63 hw hz2
          have hx64 : x2 - 1 < 2 ^ 63 := Int.lt_trans (Int.sub_lt_self x2 Int.one_pos) hx63
          have hxl : x2 - 1 < rf.length := by rw [hlr]; exact Int.sub_one_lt_iff.2 hz2
          ktr_step
          all_goals clear hx0 hx63 hx64 hxl hz62 hdp0
          all_goals (rename Fr _ _ _ _ => lF)
          all_goals (rename News _ _ _ _ => lN)
          all_goals refine Mid.mk lF lN ⟨rfl, rfl, ?_⟩
          all_goals (first | (refine .inl ⟨rfl, ?_⟩; unfold stop2; (try dsimp only at *); simp_all; done) | (refine .inr ⟨rfl, ?_⟩; unfold stop2;  (try dsimp only at *); simp_all; done) | skip)
        case go =>
          intro f s₂ hZ2
          refine wait fun cW hW => ?_
          obtain ⟨kh2, tk2, mp, cells, rfl, F2, N2, rfl, rfl, hP⟩ := hZ2
          refine hW ?_
          clear hW cW
          rcases hP with ⟨rfl, hs⟩ | ⟨rfl, hs⟩
          · (try dsimp only [KswPost])
            exact Mid.mk F2 N2 ⟨rfl, x2, t2, rfl, rfl, ⟨hz1, hs, hz3⟩, hz2⟩
          · have hlt := stop2_lt hs hlr hw0 hz2
            (try clear lF); (try clear lN); (try clear kFr); (try clear kNews)
            (try dsimp only)
            ktr_step
            (rename Fr _ _ _ _ => lF)
            (rename News _ _ _ _ => lN)
            refine ksw_end (x2 + 1, _) lF lN (by k_allIn) trivial (by kst_all) (by ksw_same) ⟨Int.le_trans hz1 (Int.le_of_lt (Int.lt_add_one_of_le (Int.le_refl x2))), hlt, fun y h1 h2 => ?_⟩ (tnD1 hlt)
            by_cases e : y = x2
            · exact e ▸ hs
            · exact hz3 y h1 (lt_ne (Int.lt_add_one_iff.1 h2) e)
    case after2 =>
      intro f s₂ hZ2
      refine wait fun cW hW => ?_
      obtain ⟨kh2, tk2, mp, cells, rfl, F2, N2, rfl, x2, t2, rfl, rfl, hz1, hz2⟩ := hZ2
      refine hW ?_
      clear hW cW
      have hz0 : x1 ≤ x2 := hz1.1
      (try clear lF); (try clear lN)
      (try dsimp only)
      generalize e0 : (if cp > 0 then cp else 0) = y0 at *
      have hy0 : 0 ≤ y0 ∧ y0 < wd ∧ cp ≤ y0 := by rw [← e0]; exact pos_in hw0 hcp2
      ktr_step
      (rename Fr _ _ _ _ => lF)
      (rename News _ _ _ _ => lN)
      (rename IsRange _ _ _ _ _ _ _ _ => rgX)
      with_unfolding_all
       refine' kst_range (σ := List Value) (fun q => [(x, instObj 557 dx), (dx, dictOf (decEs w.params k pos (.int wd twd) al y (.ref c) (.ref r) (.int cp tcp) (.int col tcol) acc st rev buf n1 n2) n), (c, listOf q.toArray nc), (r, listOf vr.toArray nr)])
        (fun _ => []) (fun _ => True) [] (fun pre q => IntsAre q (fillN cur col y0.toNat (pre.length - (if cp < 0 then 1 else 0)))) vc (by rfl) rgX ?hsmall (rangeSize_nat _ _) lF lN trivial ?hk ?hp ?turn ?done
      case hsmall => exact small_one (n62 hcp) (w62 hw (Int.le_of_lt hcp2)) (n62 (n1_of (Int.le_trans hx00 hz0))) (w62 hw hz2)
      case hk => intro p hp; cases hp
      case hp => (show IntsAre vc (fillN cur col y0.toNat (0 - if cp < 0 then 1 else 0)); rw [Nat.zero_sub]; exact hic)
      case turn =>
        intro q pre kx tkx u kh ktk own kEq kLt kOff _ kInv kFr kNews
        rw [kst0v] at kFr
        (try clear lF); (try clear lN)
        have hl1 := kInv.length
        rw [fillN_length] at hl1
        (try simp only [List.cons_append, List.nil_append] at kNews)
        have hm1 : -1 ≤ kx := Int.le_trans hcp (le_of_run kEq)
        have q3 : kx < wd := Int.lt_of_lt_of_le (lt_of_run kEq kLt) hz2
        have ql : ((fillN cur col y0.toNat (pre.length - (if cp < 0 then 1 else 0))).length : Int) = wd := by rw [fillN_length]; exact hlc
        have q1 : kx < (fillN cur col y0.toNat (pre.length - (if cp < 0 then 1 else 0))).length := by rw [ql]; exact q3
        have q2 := w63 hw (Int.le_of_lt q3)
        have q4 : -((fillN cur col y0.toNat (pre.length - (if cp < 0 then 1 else 0))).length : Int) ≤ kx := by rw [ql]; exact Int.le_trans (Int.neg_le_neg hw0) hm1
        have q5 := n63 hm1
        rcases Int.lt_or_le kx 0 with hkx | hkx
        · ktr_step
          (rename Fr _ _ _ _ => lF)
          (rename News _ _ _ _ => lN)
          (try dsimp only [InvPostN])
          exact kst_end (q.set (kx + (fillN cur col y0.toNat (pre.length - (if cp < 0 then 1 else 0))).length).toNat (.int col tcol)) lF lN (by k_allIn) (fun p hp => .tail _ (.tail _ (.tail _ (.tail _ hp)))) rfl trivial (fun _ hp => nomatch hp) (fun z hz _ _ => if_neg hz) (ints_fillNeg kInv kEq hcp hkx hlc hneg)
        · ktr_step
          (rename Fr _ _ _ _ => lF)
          (rename News _ _ _ _ => lN)
          (try dsimp only [InvPostN])
          exact kst_end (q.set kx.toNat (.int col tcol)) lF lN (by k_allIn) (fun p hp => .tail _ (.tail _ (.tail _ (.tail _ hp)))) rfl trivial (fun _ hp => nomatch hp) (fun z hz _ _ => if_neg hz) (ints_fillPos kInv kEq hcp hkx e0)
      case done =>
        intro q u kh ktk _ kInv kFr kNews
        rw [kst0] at kFr
        (try clear lF); (try clear lN)
        (try dsimp only)
        ktr_step
        (rename Fr _ _ _ _ => lF)
        (rename News _ _ _ _ => lN)
        rw [rangeKs_length] at kInv
        have e5 : (x2 - cp).toNat - (if cp < 0 then 1 else 0) = (x2 - y0).toNat := by rw [← e0]; exact pass_len hcp
        rw [e5] at kInv
        refine leaveK_ lF lN fun kF kN => ?_
        show Q .none _
        exact hret x1 x2 _ _ _ _ hx1 hx2 hz1 hz2 kInv (aft_of N G' lF lN)
end

example : True := by w_top off; trivial
section
variable {w : World} {mean : ExcName → Option Value} {mg mb : Str → Option Value} {dp un : Nat} {gd : Option (List Code)} {cn : Str} {cs : Scope} {a : Addr} {ccd : Value} {cl : List (Str × Addr)} {outer : List Env} {A₀ : Around} {base h₀ : Heap} {L : Addr} {m : Str → Option Value} {s : Shared} {Q E : Value → Shared → Prop}
theorem do_horizontal_tells (x dx c r : Nat) (n nc nr : Nat) (k : Ks) (pos al y acc st rev buf : Value) (n1 n2 : Option Value) (vc vr : List Value) (cur : List Int) (wd cp col m1 m2 : Int) (twd tcp tcol tm1 tm2 : Tok)
 (C : Cx w mean mg mb cs outer A₀ base h₀ L m s.heap) (N : News h₀ L s.heap [(x, instObj 557 dx), (dx, dictOf (decEs w.params k pos (.int wd twd) al y (.ref c) (.ref r) (.int cp tcp) (.int col tcol) acc st rev buf n1 n2) n), (c, listOf vc.toArray nc), (r, listOf vr.toArray nr)])
 (hxd : x ≠ dx) (hxc : x ≠ c) (hdc : dx ≠ c) (hxr : x ≠ r) (hdr : dx ≠ r) (hcr : c ≠ r) (hw0 : 1 ≤ wd) (hw : wd ≤ 12) (hlc : (cur.length : Int) = wd) (hic : IntsAre vc cur)
 (hcp : -1 ≤ cp) (hcp2 : cp < wd) (hcol : col = 0 ∨ col = 1) (hm1 : 0 ≤ m1) (hm1' : m1 ≤ 3000) (hm2 : 0 ≤ m2) (hm2' : m2 ≤ 3000) (hdp : dp + 2 < recursionLimit) (hun : un + 30 < cLine)
 (hret : ∀ (y0 x1 x2 : Int) vc' t1 h' tk', y0 = (if cp > 0 then cp else 0) → x1 = (y0 + roomed wd y0 m1) → x2 = (x1 + roomed wd x1 m2) →
   IntsAre vc' (fillN (fillN cur col y0.toNat (roomed wd y0 m1)) (1 - col) x1.toNat (roomed wd x1 m2)) →
   Aft s.heap h' [x, dx, c, r] [(x, instObj 557 dx), (dx, dictOf (decEs w.params k pos (.int wd twd) al y (.ref c) (.ref r) (.int x2 t1) (.int col tcol) acc st rev buf n1 n2) n), (c, listOf vc'.toArray nc), (r, listOf vr.toArray nr)] → Q .none { s with heap := h', toks := tk' }) :
 wpAny (model PG w) (ktrTop dp un gd cn cs L a ccd cl outer) (call (.ref 515) [.ref x, .int m1 tm1, .int m2 tm2]) Q E s := by
  refine wait fun cW hW => ?_
  obtain ⟨B, F, X, T, hk⟩ := C
  refine hW ?_
  clear hW cW
  have hdp0 : dp < 1000 := Nat.lt_of_le_of_lt (Nat.le_add_right dp 2) hdp
  cell_step
  intro g' L' h' FG' F' N' B' X' T' G'
  have F1 : Fr g' L' h' (fun y => List.lookup y [(Str.ofString "n2", Value.int m2 tm2), (Str.ofString "n1", Value.int m1 tm1), (Str.ofString "self", Value.ref x)]) := F'
  clear F'
  (try dsimp only)
  (try k_fold)
  ktr_enter
  generalize e0 : (if cp > 0 then cp else 0) = y0 at *
  have hy0 : 0 ≤ y0 ∧ y0 < wd ∧ cp ≤ y0 := by rw [← e0]; exact pos_in hw0 hcp2
  refine cut (Q₁ := Mid g' L' s fun f mp cells => f = .next ∧ ∃ ty, mp = (fun y => List.lookup y [(Str.ofString "n2", Value.int m2 tm2), (Str.ofString "n1", Value.int m1 tm1), (Str.ofString "self", Value.ref x)]) ∧ cells = [(x, instObj 557 dx), (dx, dictOf (decEs w.params k pos (.int wd twd) al y (.ref c) (.ref r) (.int y0 ty) (.int col tcol) acc st rev buf n1 n2) n), (c, listOf vc.toArray nc), (r, listOf vr.toArray nr)]) ?first ?after
  case first =>
    ktr_step
    all_goals (rename Fr _ _ _ _ => lF)
    all_goals (rename News _ _ _ _ => lN)
    · rw [if_neg (Int.not_lt.2 (Int.le_of_lt (by with_reducible assumption)))] at e0
      exact Mid.mk lF lN ⟨rfl, _, rfl, by rw [← e0]⟩
    · have e1 : y0 = cp := by
        rw [← e0]; split
        · rfl
        · exact Int.le_antisymm (Int.not_lt.1 (by with_reducible assumption)) (Int.not_lt.1 (by with_reducible assumption))
      rw [e1]
      exact Mid.mk lF lN ⟨rfl, _, rfl, rfl⟩
  case after =>
    intro f s₂ hZ2
    refine wait fun cW hW => ?_
    obtain ⟨kh2, tk2, mp, cells, rfl, F2, N2, rfl, ty, rfl, rfl⟩ := hZ2
    refine hW ?_
    clear hW cW
    (try clear F1); (try clear N')
    (try dsimp only)
    ktr_step
    (rename Fr _ _ _ _ => lF)
    (rename News _ _ _ _ => lN)
    (rename IsRange _ _ _ _ _ _ _ _ => rgX)
    refine cutL (Q₁ := Mid g' L' s fun f mp cells => f = .next ∧ ∃ vx x1 tx q, mp = (fun y => if y = Str.ofString "_" then vx else if y = Str.ofString "x" then some (.int x1 tx) else List.lookup y [(Str.ofString "n2", Value.int m2 tm2), (Str.ofString "n1", Value.int m1 tm1), (Str.ofString "self", Value.ref x)]) ∧ cells = [(x, instObj 557 dx), (dx, dictOf (decEs w.params k pos (.int wd twd) al y (.ref c) (.ref r) (.int y0 ty) (.int col tcol) acc st rev buf n1 n2) n), (c, listOf q.toArray nc), (r, listOf vr.toArray nr)] ∧ x1 = y0 + roomed wd y0 m1 ∧ IntsAre q (fillN cur col y0.toNat (roomed wd y0 m1))) ?lp ?go
    case lp =>
        with_unfolding_all
         refine' kst_range (σ := (Int × Tok) × List Value) (fun q => [(x, instObj 557 dx), (dx, dictOf (decEs w.params k pos (.int wd twd) al y (.ref c) (.ref r) (.int y0 ty) (.int col tcol) acc st rev buf n1 n2) n), (c, listOf q.2.toArray nc), (r, listOf vr.toArray nr)])
          (fun q => [(Str.ofString "x", .int q.1.1 q.1.2)]) (fun _ => True) [] (fun pre q => q.1.1 = y0 + pre.length ∧ q.1.1 ≤ wd ∧ IntsAre q.2 (fillN cur col y0.toNat pre.length)) ((y0, _), vc) (by rfl) rgX ?hsmall (rangeSize_nat _ _) lF lN trivial ?hk ?hp ?turn ?done
        case hsmall => exact small_one (by decide) (by decide) (n62 (n1_of hm1)) (Int.lt_of_le_of_lt hm1' (by decide))
        case hk => kst_all
        case hp => exact ⟨by simp, (Int.le_of_lt hy0.2.1), by assumption⟩
        case turn =>
          intro hZ0 pre kx tkx u kh ktk own kEq kLt kOff _ hZ12 kFr kNews
          refine wait fun cW hW => ?_
          obtain ⟨⟨xx, t1⟩, q⟩ := hZ0
          obtain ⟨kx1, kx2, kInv⟩ := hZ12
          refine hW ?_
          clear hW cW
          dsimp only at kx1 kx2 kInv kFr kNews
          rw [kst2v] at kFr
          simp only [if_dup1, if_dup2] at kFr
          (try clear lF); (try clear lN)
          have hl1 := kInv.length
          rw [fillN_length] at hl1
          (try simp only [List.cons_append, List.nil_append] at kNews)
          have q0 : 0 ≤ xx := Int.le_trans hy0.1 (le_of_run kx1)
          have q2 := w63 hw kx2
          have q3 : (cur.length : Int) < 2 ^ 63 := by rw [hlc]; exact w63 hw (Int.le_refl _)
          have q4 : ((fillN cur col y0.toNat pre.length).length : Int) = cur.length := by rw [fillN_length]
          ktr_step
          all_goals (rename Fr _ _ _ _ => lF)
          all_goals (rename News _ _ _ _ => lN)
          all_goals dsimp only [InvPostN]
          · have e5 : roomed wd y0 m1 = pre.length := roomed_end (by rw [← kx1, ← hlc]; omega) (Int.sub_zero m1 ▸ Int.lt_toNat.1 kLt) (by rw [← kx1]; exact kx2)
            exact Mid.mk lF (news_sub lN (by k_allIn)) ⟨rfl, _, _, _, _, rfl, rfl, by rw [e5]; exact kx1, by rw [e5]; exact kInv⟩
          · exact kst_end ((xx + 1, _), q.set xx.toNat (.int col _)) lF lN (by k_allIn) (fun p hp => .tail _ (.tail _ (.tail _ (.tail _ hp)))) rfl trivial (by kst_all) (fun z hz hz2 _ => by
              have hz2 := hz2 _ (List.mem_singleton.mpr rfl)
              dsimp only at hz2
              simp only [if_neg hz, if_neg hz2]) ⟨by (show xx + 1 = _); rw [List.length_append, List.length_singleton, kx1, Int.add_assoc]; rfl, by (show xx + 1 ≤ wd); rw [← hlc]; exact Int.not_le.1 (by with_reducible assumption), ints_fill2 kInv kx1 hy0.1⟩
        case done =>
          intro hZ0 u kh ktk _ hZ5 kFr kNews
          refine wait fun cW hW => ?_
          obtain ⟨⟨xx, t1⟩, q⟩ := hZ0
          obtain ⟨kx1, kx2, kInv⟩ := hZ5
          refine hW ?_
          clear hW cW
          dsimp only at kx1 kx2 kInv kFr kNews
          rw [kst2] at kFr
          simp only [if_dup1, if_dup2] at kFr
          (try clear lF); (try clear lN)
          rw [rangeKs_length, Int.sub_zero] at kInv kx1
          have e5 : roomed wd y0 m1 = m1.toNat := roomed_all (by rw [← kx1]; exact kx2) hm1
          exact Mid.mk kFr kNews ⟨rfl, _, _, _, _, rfl, rfl, by rw [e5]; exact kx1, by rw [e5]; exact kInv⟩

    case go =>
      intro f s₂ hZ2
      refine wait fun cW hW => ?_
      obtain ⟨kh2, tk2, mp, cells, rfl, F2, N2, rfl, vx, x1, tx, v1, rfl, rfl, hx1, hi1⟩ := hZ2
      refine hW ?_
      clear hW cW
      (try clear lF); (try clear lN); (try clear rgX)
      have hx1w : x1 ≤ wd := by rw [hx1]; exact Int.add_le_of_le_sub_left (roomed_le (Int.le_of_lt hy0.2.1) hm1)
      have hx10 : 0 ≤ x1 := by rw [hx1]; exact Int.le_trans hy0.1 (Int.le_add_of_nonneg_right (Int.natCast_nonneg _))
      generalize ec : fillN cur col y0.toNat (roomed wd y0 m1) = cur1 at *
      have hlc1 : (cur1.length : Int) = wd := by rw [← ec, fillN_length]; exact hlc
      (try dsimp only)
      ktr_step
      (rename Fr _ _ _ _ => lF)
      (rename News _ _ _ _ => lN)
      (rename IsRange _ _ _ _ _ _ _ _ => rgX)
      refine cutL (Q₁ := Mid g' L' s fun f mp cells => f = .next ∧ ∃ vx x2 tx q, mp = (fun y => if y = Str.ofString "_" then vx else if y = Str.ofString "x" then some (.int x2 tx) else List.lookup y [(Str.ofString "n2", Value.int m2 tm2), (Str.ofString "n1", Value.int m1 tm1), (Str.ofString "self", Value.ref x)]) ∧ cells = [(x, instObj 557 dx), (dx, dictOf (decEs w.params k pos (.int wd twd) al y (.ref c) (.ref r) (.int y0 ty) (.int col tcol) acc st rev buf n1 n2) n), (c, listOf q.toArray nc), (r, listOf vr.toArray nr)] ∧ x2 = x1 + roomed wd x1 m2 ∧ IntsAre q (fillN cur1 (1 - col) x1.toNat (roomed wd x1 m2))) ?lp ?go
      case lp =>
        with_unfolding_all
         refine' kst_range (σ := (Int × Tok) × List Value) (fun q => [(x, instObj 557 dx), (dx, dictOf (decEs w.params k pos (.int wd twd) al y (.ref c) (.ref r) (.int y0 ty) (.int col tcol) acc st rev buf n1 n2) n), (c, listOf q.2.toArray nc), (r, listOf vr.toArray nr)])
          (fun q => [(Str.ofString "x", .int q.1.1 q.1.2)]) (fun _ => True) [] (fun pre q => q.1.1 = x1 + pre.length ∧ q.1.1 ≤ wd ∧ IntsAre q.2 (fillN cur1 (1 - col) x1.toNat pre.length)) ((x1, _), v1) (by rfl) rgX ?hsmall (rangeSize_nat _ _) lF lN trivial ?hk ?hp ?turn ?done
        case hsmall => exact small_one (by decide) (by decide) (n62 (n1_of hm2)) (Int.lt_of_le_of_lt hm2' (by decide))
        case hk => kst_all
        case hp => exact ⟨by simp, hx1w, by assumption⟩
        case turn =>
          intro hZ0 pre kx tkx u kh ktk own kEq kLt kOff _ hZ12 kFr kNews
          refine wait fun cW hW => ?_
          obtain ⟨⟨xx, t1⟩, q⟩ := hZ0
          obtain ⟨kx1, kx2, kInv⟩ := hZ12
          refine hW ?_
          clear hW cW
          dsimp only at kx1 kx2 kInv kFr kNews
          rw [kst2v] at kFr
          simp only [if_dup1, if_dup2] at kFr
          (try clear lF); (try clear lN)
          have hl1 := kInv.length
          rw [fillN_length] at hl1
          (try simp only [List.cons_append, List.nil_append] at kNews)
          have q0 : 0 ≤ xx := Int.le_trans hx10 (le_of_run kx1)
          have q2 := w63 hw kx2
          have q3 : (cur1.length : Int) < 2 ^ 63 := by rw [hlc1]; exact w63 hw (Int.le_refl _)
          have q4 : ((fillN cur1 (1 - col) x1.toNat pre.length).length : Int) = cur1.length := by rw [fillN_length]
          ktr_step
          all_goals (rename Fr _ _ _ _ => lF)
          all_goals (rename News _ _ _ _ => lN)
          all_goals dsimp only [InvPostN]
          · have e5 : roomed wd x1 m2 = pre.length := roomed_end (by rw [← kx1, ← hlc1]; omega) (Int.sub_zero m2 ▸ Int.lt_toNat.1 kLt) (by rw [← kx1]; exact kx2)
            exact Mid.mk lF (news_sub lN (by k_allIn)) ⟨rfl, _, _, _, _, rfl, rfl, by rw [e5]; exact kx1, by rw [e5]; exact kInv⟩
          · exact kst_end ((xx + 1, _), q.set xx.toNat (.int (1 - col) _)) lF lN (by k_allIn) (fun p hp => .tail _ (.tail _ (.tail _ (.tail _ hp)))) rfl trivial (by kst_all) (fun z hz hz2 _ => by
              have hz2 := hz2 _ (List.mem_singleton.mpr rfl)
              dsimp only at hz2
              simp only [if_neg hz, if_neg hz2]) ⟨by (show xx + 1 = _); rw [List.length_append, List.length_singleton, kx1, Int.add_assoc]; rfl, by (show xx + 1 ≤ wd); rw [← hlc1]; exact Int.not_le.1 (by with_reducible assumption), ints_fill2 kInv kx1 hx10⟩
        case done =>
          intro hZ0 u kh ktk _ hZ5 kFr kNews
          refine wait fun cW hW => ?_
          obtain ⟨⟨xx, t1⟩, q⟩ := hZ0
          obtain ⟨kx1, kx2, kInv⟩ := hZ5
          refine hW ?_
          clear hW cW
          dsimp only at kx1 kx2 kInv kFr kNews
          rw [kst2] at kFr
          simp only [if_dup1, if_dup2] at kFr
          (try clear lF); (try clear lN)
          rw [rangeKs_length, Int.sub_zero] at kInv kx1
          have e5 : roomed wd x1 m2 = m2.toNat := roomed_all (by rw [← kx1]; exact kx2) hm2
          exact Mid.mk kFr kNews ⟨rfl, _, _, _, _, rfl, rfl, by rw [e5]; exact kx1, by rw [e5]; exact kInv⟩

      case go =>
        intro f s₂ hZ2
        refine wait fun cW hW => ?_
        obtain ⟨kh2, tk2, mp, cells, rfl, F2, N2, rfl, vx, x2, tx, v1, rfl, rfl, hx2, hi2⟩ := hZ2
        refine hW ?_
        clear hW cW
        (try clear lF); (try clear lN)
        (try dsimp only)
        ktr_step
        (rename Fr _ _ _ _ => lF)
        (rename News _ _ _ _ => lN)
        refine leaveK_ lF lN fun kF kN => ?_
        show Q .none _
        exact hret y0 x1 x2 _ _ _ _ rfl hx1 hx2 (by rw [ec]; exact hi2) (aft_of N G' lF lN)
end

example : True := by w_top off; trivial
section
variable {w : World} {mean : ExcName → Option Value} {mg mb : Str → Option Value} {dp un : Nat} {gd : Option (List Code)} {cn : Str} {cs : Scope} {a : Addr} {ccd : Value} {cl : List (Str × Addr)} {outer : List Env} {A₀ : Around} {base h₀ : Heap} {L : Addr} {m : Str → Option Value} {s : Shared} {Q E : Value → Shared → Prop}
theorem output_line_tells (x dx c r : Nat) (n nc nr : Nat) (k : Ks) (pos al y acc st : Value) (rv : Bool) (bb : Array UInt8) (tb : Tok) (n1 n2 : Option Value) (vc vr : List Value) (cur : List Int) (wd cp col yy : Int) (twd tcp tcol tyy : Tok)
 (C : Cx w mean mg mb cs outer A₀ base h₀ L m s.heap) (N : News h₀ L s.heap [(x, instObj 557 dx), (dx, dictOf (decEs w.params k pos (.int wd twd) al y (.ref c) (.ref r) (.int cp tcp) (.int col tcol) acc st (.bool rv) (.bytes bb tb) n1 n2) n), (c, listOf vc.toArray nc), (r, listOf vr.toArray nr)])
 (hxd : x ≠ dx) (hxc : x ≠ c) (hdc : dx ≠ c) (hxr : x ≠ r) (hdr : dx ≠ r) (hcr : c ≠ r) (hw0 : 1 ≤ wd) (hw : wd ≤ 12) (hlc : (cur.length : Int) = wd) (hic : IntsAre vc cur)
 (hpk : KBa.In (packs ((cur.length + 7 : Int).fdiv 8).toNat (if rv then cur.map (fun b => 1 - b) else cur))) (hbb : bb.size ≤ 1000000) (hdp : dp + 2 < recursionLimit) (hun : un + 30 < cLine)
 (hret : ∀ t h' tk', Aft s.heap h' [x, dx, c, r] [(x, instObj 557 dx), (dx, dictOf (decEs w.params k pos (.int wd twd) al y (.ref c) (.ref r) (.int cp tcp) (.int col tcol) acc st (.bool rv) (.bytes (bb ++ byteArr (packs ((cur.length + 7 : Int).fdiv 8).toNat (if rv then cur.map (fun b => 1 - b) else cur))) t) n1 n2) n), (c, listOf vc.toArray nc), (r, listOf vr.toArray nr)] → Q .none { s with heap := h', toks := tk' }) :
 wpAny (model PG w) (ktrTop dp un gd cn cs L a ccd cl outer) (call (.ref 554) [.ref x, .int yy tyy, .ref c]) Q E s := by
  obtain ⟨B, F, X, T, hk⟩ := C
  have hvc : vc.length = cur.length := hic.length
  have hdp0 : dp < 1000 := dn (c := 0) hdp (Nat.zero_le _)
  have hc12 := le12 hlc hw
  have hm2 : ((cur.length + 7 : Int).fdiv 8).toNat ≤ 2 := up8_le2 hc12
  have hM : (bb.size : Int) + (((cur.length + 7 : Int).fdiv 8).toNat : Int) ≤ 2000000 := Int.ofNat_le.2 (Nat.le_trans (Nat.add_le_add hbb hm2) (Nat.le_of_ble_eq_true rfl))
  have hm3 : ((cur.length + 7 : Int).fdiv 8).toNat ≤ 16777216 := Nat.le_trans hm2 (Nat.le_of_ble_eq_true rfl)
  have hm4 : bb.size + ((cur.length + 7 : Int).fdiv 8).toNat ≤ 16777216 := Nat.le_trans (Nat.add_le_add hbb hm2) (Nat.le_of_ble_eq_true rfl)
  have hm5 : (cur.length : Int) < 2 ^ 63 := by rw [hlc]; exact w63 hw (Int.le_refl _)
  have hm6 : (cur.length + 7 : Int).fdiv 8 ≤ 2 := Int.ofNat_le.2 hm2
  have hm7 : (cur.length + 7 : Int).fdiv 8 < 2 ^ 63 := Int.lt_of_le_of_lt hm6 (by decide)
  have hm8 : (cur.length + 7 : Int).fdiv 8 ≤ ((1048576 : Nat) : Int) := Int.le_trans hm6 (by decide)
  have hm9 : -(2 ^ 63) ≤ (cur.length + 7 : Int).fdiv 8 := Int.le_trans (by decide) (Int.natCast_nonneg ((cur.length + 7) / 8))
  cases rv
  · -- false
    simp only [if_true, if_false, Bool.false_eq_true] at hpk hret
    cell_step
    intro g' L' h' FG' F' N' B' X' T' G'
    have F1 : Fr g' L' h' (fun y => List.lookup y [(Str.ofString "bits", Value.ref c), (Str.ofString "y", .int yy tyy), (Str.ofString "self", Value.ref x)]) := F'
    clear F'
    (try dsimp only)
    (try k_fold)
    ktr_step
    (rename Fr _ _ _ _ => lF)
    (rename News _ _ _ _ => lN)
    skip
    with_unfolding_all
     refine' ken4 (fun pre q => IntsAre q (packs ((cur.length + 7 : Int).fdiv 8).toNat pre)) (by rfl) lN ?hl ?hi lF ?hp ?turn ?done
    case hl => exact .tail _ (.tail _ (.tail _ (.head _)))
    case hi => exact hic
    case hp => exact ints_flat _ _ _
    case turn =>
      intro q pre post b t ti h tk own kEq kOff kInv kFr kNews
      (try clear lF); (try clear lN)
      have hl1 := kInv.length
      rw [packs_length] at hl1
      have kl := congrArg List.length kEq
      simp only [List.length_map, List.length_append, List.length_cons] at kl
      (try simp only [List.cons_append, List.nil_append] at kNews)
      have hlp : pre.length < cur.length := by rw [kl]; exact Nat.lt_add_of_pos_right (Nat.succ_pos _)
      have g0 := pack_nn pre.length
      have g1 : (pre.length : Int).fdiv 8 < (packs ((cur.length + 7 : Int).fdiv 8).toNat pre).length := by rw [packs_length]; exact pack_lt hlp
      have g2 := pack_63 (Nat.le_trans (Nat.le_of_lt hlp) hc12)
      have g3 := f8_nn pre.length
      have g4 := f8_lt pre.length
      have g5 := f8_63 pre.length
      (try dsimp only)
      ktr_step
      all_goals (rename Fr _ _ _ _ => lF)
      all_goals (rename News _ _ _ _ => lN)
      all_goals dsimp only [InvPostN]
      · exact ken_end _ lF lN (by k_allIn) (fun p hp => .tail _ (.tail _ (.tail _ (.tail _ (.tail _ (.tail _ (.tail _ (id hp)))))))) (fun z h1 h2 => by rw [if_neg h1, if_neg h2]) (ints_pack kInv (by assumption))
      · exact ken_end q lF lN (by k_allIn) (fun p hp => .tail _ (.tail _ (.tail _ (.tail _ (.tail _ (.tail _ (id hp))))))) (fun z h1 h2 => by rw [if_neg h1, if_neg h2]) (pack_zero kInv (by omega))
    case done =>
      intro q v u kh ktk kInv kFr kNews
      (try clear lF); (try clear lN)
      have hl1 := kInv.length
      rw [packs_length] at hl1
      (try dsimp only)
      ktr_step
      (rename Fr _ _ _ _ => lF)
      (rename News _ _ _ _ => lN)
      refine leaveK_ lF lN fun kF kN => ?_
      show Q .none _
      exact hret _ _ _ (aft_of N G' lF (news_sub lN (by k_allIn)))
  · -- true
    simp only [if_true, if_false, Bool.false_eq_true] at hpk hret
    cell_step
    intro g' L' h' FG' F' N' B' X' T' G'
    have F1 : Fr g' L' h' (fun y => List.lookup y [(Str.ofString "bits", Value.ref c), (Str.ofString "y", .int yy tyy), (Str.ofString "self", Value.ref x)]) := F'
    clear F'
    (try dsimp only)
    (try k_fold)
    ktr_step
    (rename Fr _ _ _ _ => lF)
    (rename News _ _ _ _ => lN)
    have lN := news_swap lN
    with_unfolding_all
     refine' ken4 (fun pre q => IntsAre q (packs ((cur.length + 7 : Int).fdiv 8).toNat pre)) (by rfl) lN ?hl ?hi lF ?hp ?turn ?done
    case hl => exact .head _
    case hi => assumption
    case hp => exact ints_flat _ _ _
    case turn =>
      intro q pre post b t ti h tk own kEq kOff kInv kFr kNews
      (try clear lF); (try clear lN)
      have hl1 := kInv.length
      rw [packs_length] at hl1
      have kl := congrArg List.length kEq
      simp only [List.length_map, List.length_append, List.length_cons] at kl
      (try simp only [List.cons_append, List.nil_append] at kNews)
      have hlp : pre.length < cur.length := by rw [kl]; exact Nat.lt_add_of_pos_right (Nat.succ_pos _)
      have g0 := pack_nn pre.length
      have g1 : (pre.length : Int).fdiv 8 < (packs ((cur.length + 7 : Int).fdiv 8).toNat pre).length := by rw [packs_length]; exact pack_lt hlp
      have g2 := pack_63 (Nat.le_trans (Nat.le_of_lt hlp) hc12)
      have g3 := f8_nn pre.length
      have g4 := f8_lt pre.length
      have g5 := f8_63 pre.length
      (try dsimp only)
      ktr_step
      all_goals (rename Fr _ _ _ _ => lF)
      all_goals (rename News _ _ _ _ => lN)
      all_goals dsimp only [InvPostN]
      · exact ken_end _ lF lN (by k_allIn) (fun p hp => .tail _ (.tail _ (.tail _ (.tail _ (.tail _ (.tail _ (.tail _ (.tail _ hp)))))))) (fun z h1 h2 => by rw [if_neg h1, if_neg h2]) (ints_pack kInv (by assumption))
      · exact ken_end q lF lN (by k_allIn) (fun p hp => .tail _ (.tail _ (.tail _ (.tail _ (.tail _ (.tail _ (.tail _ hp))))))) (fun z h1 h2 => by rw [if_neg h1, if_neg h2]) (pack_zero kInv (by omega))
    case done =>
      intro q v u kh ktk kInv kFr kNews
      (try clear lF); (try clear lN)
      have hl1 := kInv.length
      rw [packs_length] at hl1
      (try dsimp only)
      ktr_step
      (rename Fr _ _ _ _ => lF)
      (rename News _ _ _ _ => lN)
      refine leaveK_ lF lN fun kF kN => ?_
      show Q .none _
      exact hret _ _ _ (aft_of N G' lF (news_sub lN (by k_allIn)))
end


example : True := by w_top off; trivial
/-- a class of the program's own that is an exception -/
inductive ClsAt (h : Heap) (C : Addr) (bmB : List Value) (newId : String) : Prop where
  | intro : ∀ bm N nm q bs hdct sn sub ab col dd k0 k1 k2 k3 k5 mN, h.get? C = some (excClassObj nm q C N bs bm hdct sn sub ab col dd k0 k1 k2 k3 k5 newId) → h.Ns N mN → mN "__init__" = none → OwnTail h bmB bm → ClsAt h C bmB newId
abbrev BX : List Value := [.type "Exception", .type "BaseException", .type "object"]
abbrev BM : List Value := [.ref 371, .ref 44, .ref 31, .type "Exception", .type "BaseException", .type "object"]
/-- such a class in the written part -/
inductive ExcK (K : Frag) (C : Addr) : Prop where
  | intro : ∀ N nm q bs hdct sn sub ab col dd k0 k1 k2 k3 k5, K.lookup C = some (excClassObj nm q C N bs BM hdct sn sub ab col dd k0 k1 k2 k3 k5 "Exception.__new__") → tailIn K BX BM = true → nsOkIn K N = true → nsIn K N "__init__" = some none → ExcK K C
theorem exc_skip {w : World} {h : Heap} (X : (hd.heap_39 w.params).In h) : ExcK (hd.heap_39 w.params) 407 := by
  (have hz : (PySem.Challenge.rw_ao0017_01 : OpenLaw) = PySem.Challenge.rw_ao0017_01 := rfl)
  revert X hz
  k_fill
  intro X hz
  exact ExcK.intro _ _ _ _ _ _ _ _ _ _ _ _ _ _ _ (by k_is) (by kernel_rfl) (by kernel_rfl) (by kernel_rfl)
theorem exc_eofb {w : World} {h : Heap} (X : (hd.heap_39 w.params).In h) : ExcK (hd.heap_39 w.params) 383 := by
  (have hz : (PySem.Challenge.rw_ao0017_01 : OpenLaw) = PySem.Challenge.rw_ao0017_01 := rfl)
  revert X hz
  k_fill
  intro X hz
  exact ExcK.intro _ _ _ _ _ _ _ _ _ _ _ _ _ _ _ (by k_is) (by kernel_rfl) (by kernel_rfl) (by kernel_rfl)
theorem cls_of {K : Frag} {h : Heap} {C : Addr} (X : K.In h) (q : ExcK K C) : ClsAt h C BX "Exception.__new__" := by
  cases q with
  | intro N nm q bs hdct sn sub ab col dd k0 k1 k2 k3 k5 ho ht hok hni => exact ⟨BM, N, nm, q, bs, hdct, sn, sub, ab, col, dd, k0, k1, k2, k3, k5, _, X _ _ ho, .of_isNs (isNs_of_in X hok), nsMap_none_of_in X hok hni, tail_of_in X ht⟩
theorem ClsAt.keeps {h h' : Heap} {C : Addr} {bmB : List Value} {newId : String} (O : ClsAt h C bmB newId) (hk : ∀ b o, h.get? b = some o → h'.get? b = some o) : ClsAt h' C bmB newId := by
  refine wait fun cW hW => ?_
  obtain ⟨bm, N, nm, q, bs, hdct, sn, sub, ab, col, dd, k0, k1, k2, k3, k5, mN, hC, hN, hni, T⟩ := O
  refine hW ?_
  clear hW cW
  exact ⟨bm, N, nm, q, bs, hdct, sn, sub, ab, col, dd, k0, k1, k2, k3, k5, mN, hk _ _ hC, hN.keeps hk, hni, T.keeps hk⟩
theorem issub_own {nm q : Str} {C N : Addr} {bs bm : List Value} {hdct : Bool} {sn : List Str} {sub : List Value} {ab : Bool} {col : Option Bool} {dd : Option Addr} {k0 k1 k2 k3 k5 : Option Value} {newId : String} :
   Meets (Builtin.«issubclass» ⟨[.ref C, .ref C], []⟩) (fun _ R s => s.heap.get? C = some (excClassObj nm q C N bs bm hdct sn sub ab col dd k0 k1 k2 k3 k5 newId) ∧ R (.ok (.ret (.bool true))) s) := by
  intro prog w A R s hs
  obtain ⟨hC, hq⟩ := hs
  refine issubclass_outer ?_
  have hcc : (Value.ref C :: bm).contains (.ref C) = true := by simp
  refine wait fun cW hW => ?_
  obtain ⟨h, g, d, t, os⟩ := s
  refine hW ?_
  clear hW cW
  unfold rawInt
  repeat (any_goals (first | assumption | with_reducible refine wpAny_loadPart_at hC ?_ | (with_reducible refine wpAny_isSubtype_exc hC ?_; rw [hcc]) | wp_step))
inductive RaiseQ (bmB : List Value) (newId : String) (E : Value → Shared → Prop) (v : Value) (s₁ : Shared) : Prop where
  | intro : ∀ C, v = .ref C → ClsAt s₁.heap C bmB newId → (∀ h' e, Heap.MadeExcOf s₁.heap h' e (.ref C) [] → E (.ref e) { s₁ with heap := h' }) → RaiseQ bmB newId E v s₁
theorem Raise_cls {prog : Program} {w : World} {A : Around} {E : Value → Shared → Prop} {s : Shared} {env : Env} {x : Expr} {pos : Pos} {B newId initId : String} {bmB : List Value} {Q : Flow → Shared → Prop} (FB : ExcBaseFacts B newId initId bmB) (hh : A.handled = none)
    (hx : wpAny (model prog w) A (eval x env) (RaiseQ bmB newId E) E s) : wpAny (model prog w) A (exec (.Raise (some x) none pos) env) Q E s := by
  show wpAny (model prog w) A (do standAt pos; raiseStmt env (some (do let v ← eval x env; standAt pos; pure v)) none) Q E s
  refine wpAny_bind (wpAny_standAt ?_)
  unfold raiseStmt
  (try dsimp only)
  refine wpAny_bind (wpAny_bind (wpAny_mono hx (fun v s₁ h₁ => wpAny_bind (wpAny_standAt (wpAny_pure ?_))) fun _ _ e => e))
  refine wait fun cW hW => ?_
  obtain ⟨C, rfl, ⟨bm, N, nm, q, bs, hdct, sn, sub, ab, col, dd, k0, k1, k2, k3, k5, mN, hC, hN, hni, T⟩, hE⟩ := h₁
  refine hW ?_
  clear hW cW
  have hcB : (Value.ref C :: bm).contains (.type "BaseException") = true := by rw [List.contains_cons, T.hasType FB.hasBase, Bool.or_true]
  refine wait fun cW hW => ?_
  obtain ⟨hp, g, d, tk, os⟩ := s₁
  refine hW ?_
  clear hW cW
  refine wpAny_bind (wpAny_pure ?_)
  (try dsimp only)
  refine wpAny_bind (wpAny_holding ?_)
  have hty : ∀ {h' : Heap} {Q' : Bool → Shared → Prop}, h'.get? C = some (excClassObj nm q C N bs bm hdct sn sub ab col dd k0 k1 k2 k3 k5 newId) → Q' true ⟨h', g, d, tk, os⟩ → wpAny (model prog w) A (isType (.ref C)) Q' E ⟨h', g, d, tk, os⟩ := by
    intro h' Q' hc hq
    simp only [isType, loadHead]
    exact wpAny_bind (wpAny_loadPart hc (wpAny_pure hq))
  unfold excFromValue isExcClass
  refine wpAny_bind (wpAny_bind (hty hC ?_))
  simp only [if_true]
  refine wpAny_isSubtype_exc hC ?_
  rw [hcB]
  simp only [if_true]
  refine wpAny_bind (wpAny_call_exc_subT FB T hC hN hni fun h' e hn => ?_)
  refine wait fun cW hW => ?_
  obtain ⟨t, he, ht, ht'⟩ := id hn.there
  refine hW ?_
  clear hW cW
  have hC' := hn.keeps _ _ hC
  have hto : ∀ {Q' : Value → Shared → Prop}, Q' (.ref C) ⟨h', g, d, tk, os⟩ → wpAny (model prog w) A (typeOf (.ref e)) Q' E ⟨h', g, d, tk, os⟩ := fun hq => wpAny_typeOf_ref he hq
  unfold isInstance
  refine wpAny_bind (wpAny_bind (hto (wpAny_isSubtype_exc hC' ?_)))
  rw [hcB]
  simp only [Bool.not_true, Bool.false_eq_true, if_false]
  refine wpAny_pure ?_
  refine wpAny_bind (hty hC' ?_)
  rw [if_pos rfl]
  refine wpAny_bind (wpAny_holding ?_)
  unfold raisedFor
  simp only [Bool.false_eq_true, if_false]
  refine wpAny_bind (hto ?_)
  refine wpAny_bind (call_issubclass issub_own ⟨hC', ?_⟩)
  (try dsimp only [wants])
  refine wpAny_bind (wpAny_truthy_bool ?_)
  rw [if_pos rfl]
  refine wpAny_pure ?_
  unfold setFlight raiseNew
  refine wpAny_bind (wpAny_bind (wpAny_field (i := 1) (x := Value.none) he rfl rfl ?_))
  rw [if_neg (by decide)]
  refine wpAny_pure (wpAny_bind (wpAny_handled ?_))
  rw [hh]
  exact wpAny_bind (wpAny_pure (wpAny_throw (hE h' e hn)))

local macro_rules | `(tactic| walk_at "exec Raise some none") => `(tactic| (k_here; (with_reducible show wpAny _ _ (exec (Stmt.Raise (some (Expr.Attribute _ _ _)) none _) _) _ _ _); refine Raise_cls (bmB := [.type "Exception", .type "BaseException", .type "object"]) (newId := "Exception.__new__") PySem.F.excBase_Exception rfl ?_))
local macro_rules | `(tactic| ktr_step) => `(tactic| ((try k_fold); repeat' (first | (k_unfold; (try dsimp only)) | ((fail_if_success (first | tb_start | with_reducible first | show RaiseQ _ _ _ _ _ | show wpAny _ _ (leaving _ _) _ _ _ | show wpAny _ _ (call (Value.ref _) _) _ _ _)); tb_rel)); all_goals (try (dsimp only; k_unfold; (try dsimp only)))))

example : True := by w_top off; trivial
/-- what a call leaves that ends in an exception of the program's own class C -/
inductive Thrown (base h₀ : Heap) (L : Addr) (m : Str → Option Value) (h : Heap) (adr : List Addr) (envs : List Env) (C : Addr) (cells : List (Addr × Obj)) (e : Addr) (h' : Heap) : Prop where
  | intro : ∀ g t vs, Fr h₀ L g m → GSub h g adr → RaisedS base g envs e (.ref C) t vs cells h' → g.UpToSlots h' → Thrown base h₀ L m h adr envs C cells e h'
theorem thrown_new {M : Model} {A : Around} {E : Value → Shared → Prop} {s' : Shared} {base h₀ g h : Heap} {outer : List Env} {L₀ L a e C : Addr} {m₀ m : Str → Option Value} {name : Str} {scope : Scope} {cd : Value} {Q : Unit → Shared → Prop} {cells : List (Addr × Obj)} {vs : List Value} {H : Heap} {adr : List Addr}
    (K : Below A base outer g) (hx : Heap.MadeExcOf h s'.heap e (.ref C) vs) (F : Fr g L h m) (N : News g L h cells) (F₀ : Fr h₀ L₀ g m₀) (G : GSub H g adr)
    (hQ : ∀ h', Thrown base h₀ L₀ m₀ H adr outer C cells e h' → Q () { s' with heap := h' }) (hk : scope.kind = .function := by rfl) :
    wpAny M (A.deeper (envOf name scope L a cd)) (leaving (envOf name scope L a cd) (.ref e)) Q E s' :=
  leave_raiseS K hx F N (fun h' t R _ U => hQ h' ⟨g, t, vs, F₀, G, R, U⟩) hk
theorem raisedS_sub {base G h : Heap} {l : List Env} {e t : Addr} {cls : Value} {vs : List Value} {news new : List (Addr × Obj)} (R : RaisedS base G l e cls t vs news h) (hs : ∀ p ∈ new, p ∈ news) : RaisedS base G l e cls t vs new h := by
  obtain ⟨⟨B, hB, hG, hl, hf, hn⟩, ht⟩ := R
  exact ⟨⟨B, hB, hG, fun q hq => hl q (hs q hq), hf, hn⟩, ht⟩
theorem thrown_on {M : Model} {A : Around} {E : Value → Shared → Prop} {s' : Shared} {base h₀ g h : Heap} {outer : List Env} {L₀ L a e C : Addr} {m₀ m : Str → Option Value} {name : Str} {scope : Scope} {cd : Value} {Q : Unit → Shared → Prop} {cells : List (Addr × Obj)} {H : Heap} {adr adr' : List Addr}
    (K : Below A base outer g) (T : Thrown base g L m h adr' (envOf name scope L a cd :: outer) C cells e s'.heap) (F₀ : Fr h₀ L₀ g m₀) (G : GSub H g adr)
    (hQ : ∀ h', Thrown base h₀ L₀ m₀ H adr outer C cells e h' → Q () { s' with heap := h' }) :
    wpAny M (A.deeper (envOf name scope L a cd)) (leaving (envOf name scope L a cd) (.ref e)) Q E s' := by
  obtain ⟨g₂, t, vs, F, _, R, U⟩ := T
  exact leave_onS K F R U fun h' R' _ U' => hQ h' ⟨g, t, vs, F₀, G, R', U'⟩
theorem Thrown.sub {base h₀ : Heap} {L : Addr} {m : Str → Option Value} {h : Heap} {adr : List Addr} {envs : List Env} {C : Addr} {cells new : List (Addr × Obj)} {e : Addr} {h' : Heap} (T : Thrown base h₀ L m h adr envs C cells e h') (hs : ∀ p ∈ new, p ∈ cells) : Thrown base h₀ L m h adr envs C new e h' := by
  obtain ⟨g, t, vs, F, G, R, U⟩ := T
  exact ⟨g, t, vs, F, G, raisedS_sub R hs, U⟩
theorem newsApp {h₀ h : Heap} {L : Addr} {a b : List (Addr × Obj)} (A : News h₀ L h a) (B : News h₀ L h b) : News h₀ L h (a ++ b) := fun p hp => (List.mem_append.mp hp).elim (A p) (B p)
theorem off3 {x dx c r : Nat} {o : Obj} (h1 : x ≠ r) (h2 : dx ≠ r) (h3 : c ≠ r) : ∀ p ∈ [((r, o) : Addr × Obj)], p.1 ∉ ([x, dx, c] : List Addr) := fun p hp h => by
  rw [List.mem_singleton.mp hp] at h
  rcases List.mem_cons.mp h with h | h
  · exact h1 h.symm
  · rcases List.mem_cons.mp h with h | h
    · exact h2 h.symm
    · exact h3 (List.mem_singleton.mp h).symm
theorem off_map {mt : Nat} {o : Obj} {cells : List (Addr × Obj)} (h : ∀ p ∈ cells, p.1 ≠ mt) : ∀ p ∈ [((mt, o) : Addr × Obj)], p.1 ∉ cells.map (·.1) := fun p hp hm => by
  rw [List.mem_singleton.mp hp] at hm
  obtain ⟨q, hq, e⟩ := List.mem_map.mp hm
  exact h q hq e
/-- a call that is handed some cells of the ledger, with one more beside them -/
theorem aft_beside {h₀ h h' : Heap} {L : Addr} {m : Str → Option Value} {mt : Nat} {o : Obj} {cells new : List (Addr × Obj)} (F : Fr h₀ L h m) (N : News h₀ L h ((mt, o) :: cells)) (off : ∀ p ∈ cells, p.1 ≠ mt) (D : Aft h h' (cells.map (·.1)) new) :
   Fr h₀ L h' m ∧ News h₀ L h' ((mt, o) :: new) ∧ ∀ p ∈ new, p.1 ≠ mt := by
  have N4 : News h₀ L h cells := news_sub N fun p hp => List.mem_cons_of_mem _ hp
  have N1 : News h₀ L h [(mt, o)] := news_sub N fun p hp => List.mem_singleton.mp hp ▸ .head _
  refine ⟨fr_aft F N4 (fun _ h => h) D, fun p hp => ?_, fun p hp => new_off N1 (off_map off) D p hp _ (.head _)⟩
  rcases List.mem_cons.mp hp with rfl | hp
  · exact news_rest N1 (off_map off) D _ (.head _)
  · exact news_aft F N4 (fun _ h => h) D p hp

example : True := by w_top off; trivial
section
variable {w : World} {mean : ExcName → Option Value} {mg mb : Str → Option Value} {dp un : Nat} {gd : Option (List Code)} {cn : Str} {cs : Scope} {a : Addr} {ccd : Value} {cl : List (Str × Addr)} {outer : List Env} {A₀ : Around} {base h₀ : Heap} {L : Addr} {m : Str → Option Value} {s : Shared} {Q E : Value → Shared → Prop}
theorem flush_line_tells (x dx c r : Nat) (n nc nr : Nat) (k : Ks) (pos acc st : Value) (al rv : Bool) (bb : Array UInt8) (tb : Tok) (n1 n2 : Option Value) (vc vr : List Value) (cur rf : List Int) (wd cp col y : Int) (twd tcp tcol ty : Tok)
 (C : Cx w mean mg mb cs outer A₀ base h₀ L m s.heap) (N : News h₀ L s.heap [(x, instObj 557 dx), (dx, dictOf (decEs w.params k pos (.int wd twd) (.bool al) (.int y ty) (.ref c) (.ref r) (.int cp tcp) (.int col tcol) acc st (.bool rv) (.bytes bb tb) n1 n2) n), (c, listOf vc.toArray nc), (r, listOf vr.toArray nr)])
 (hxd : x ≠ dx) (hxc : x ≠ c) (hdc : dx ≠ c) (hxr : x ≠ r) (hdr : dx ≠ r) (hcr : c ≠ r) (hw0 : 1 ≤ wd) (hw : wd ≤ 12) (hlc : (cur.length : Int) = wd) (hic : IntsAre vc cur)
 (hb : Bits cur) (hbb : bb.size ≤ 1000000) (hdp : dp + 3 < recursionLimit) (hun : un + 40 < cLine)
 (hno : cp < wd → ∀ h' tk', Aft s.heap h' [x, dx, c, r] [(x, instObj 557 dx), (dx, dictOf (decEs w.params k pos (.int wd twd) (.bool al) (.int y ty) (.ref c) (.ref r) (.int cp tcp) (.int col tcol) acc st (.bool rv) (.bytes bb tb) n1 n2) n), (c, listOf vc.toArray nc), (r, listOf vr.toArray nr)] → Q .none { s with heap := h', toks := tk' })
 (hyes : wd ≤ cp → al = false → ∀ c' vs' tb2 ty2 t1 t2 nc' h' tk', IntsAre vs' (List.replicate wd.toNat 1) → x ≠ c' → dx ≠ c' → c ≠ c' → Aft s.heap h' [x, dx, c, r] [(x, instObj 557 dx), (dx, dictOf (decEs w.params k pos (.int wd twd) (.bool al) (.int (y + 1) ty2) (.ref c') (.ref c) (.int (-1) t1) (.int 1 t2) acc st (.bool rv) (.bytes (bb ++ byteArr (packs ((cur.length + 7 : Int).fdiv 8).toNat (if rv then cur.map (fun b => 1 - b) else cur))) tb2) n1 n2) n), (c', listOf vs'.toArray nc'), (c, listOf vc.toArray nc)] → Q .none { s with heap := h', toks := tk' })
 (hexc : wd ≤ cp → al = true → ∀ c' vs' tb2 ty2 t1 t2 nc' e h' tk', IntsAre vs' (List.replicate wd.toNat 1) → x ≠ c' → dx ≠ c' → c ≠ c' → Thrown base h₀ L m s.heap [x, dx, c, r] (envX cn cs L a ccd cl :: outer) 407 [(x, instObj 557 dx), (dx, dictOf (decEs w.params k pos (.int wd twd) (.bool al) (.int (y + 1) ty2) (.ref c') (.ref c) (.int (-1) t1) (.int 1 t2) acc st (.bool rv) (.bytes (bb ++ byteArr (packs ((cur.length + 7 : Int).fdiv 8).toNat (if rv then cur.map (fun b => 1 - b) else cur))) tb2) n1 n2) n), (c', listOf vs'.toArray nc'), (c, listOf vc.toArray nc)] e h' → E (.ref e) { s with heap := h', toks := tk' }) :
 wpAny (model PG w) (ktrTop dp un gd cn cs L a ccd cl outer) (call (.ref 494) [.ref x]) Q E s := by
  obtain ⟨B, F, X, T, hk⟩ := C
  cell_step
  intro g' L' h' FG' F' N' B' X' T' G'
  have F1 : Fr g' L' h' (fun y => List.lookup y [(Str.ofString "self", Value.ref x)]) := F'
  clear F'
  (try dsimp only)
  (try k_fold)
  ktr_step
  · (rename Fr _ _ _ _ => lF)
    (rename News _ _ _ _ => lN)
    have hle : wd ≤ cp := by omega
    have hpk' := packs_row rv hlc hb
    refine output_line_tells (dp := dp + 1) (un := un + 3) x dx c r n nc nr k _ _ _ _ _ rv bb tb _ _ vc vr cur wd cp col y _ _ _ _ ⟨B', lF, X', T', rfl⟩ lN hxd hxc hdc hxr hdr hcr hw0 hw hlc hic hpk' hbb (by omega) (by omega) ?_
    intro t2 h2 tk2 D
    have F2 := fr_aft lF lN (by intro a h; exact h) D
    have N2 := news_aft lF lN (by intro a h; exact h) D
    clear lF lN D
    ktr_step
    (rename Fr _ _ _ _ => lF)
    (rename News _ _ _ _ => lN)
    (try dsimp only)
    refine reset_line_tells (dp := dp + 1) (un := un + 3) x dx c r (listOf vc.toArray nc) n k _ _ _ _ _ _ _ _ _ _ _ wd _ ⟨B', lF, X', T', rfl⟩ (news_sub (new := [_, _, _]) lN (by k_allIn)) hxd hxc hdc hw0 hw (by omega) (by omega) ?_
    intro c' vs' t3 t4 n' h3 tk3 hi3 D hxc' hdc' hcc'
    have F2 := fr_aft lF lN (fun a h => List.mem_append_left [r] h) D
    have N3 := news_aft lF lN (fun a h => List.mem_append_left [r] h) D
    have N2 := newsApp N3 (news_rest (rest := [(r, _)]) (news_sub lN (by k_allIn)) (off3 hxr hdr hcr) D)
    clear lF lN D
    (try dsimp only)
    have Ocl := cls_of (C := 407) X' (exc_skip X')
    clear N3
    cases al
    · ktr_step
      (rename Fr _ _ _ _ => lF)
      (rename News _ _ _ _ => lN)
      refine leaveK_ lF lN fun kF kN => ?_
      exact hyes hle rfl _ _ _ _ _ _ _ _ _ hi3 hxc' hdc' hcc' (aft_of N G' lF (news_sub lN (by k_allIn)))
    · ktr_step
      (rename Fr _ _ _ _ => lF)
      (rename News _ _ _ _ => lN)
      refine ⟨407, rfl, Ocl.keeps lF.keep, fun h4 e M4 => ?_⟩
      (try dsimp only)
      refine thrown_new B' M4 lF lN FG' G' fun h5 T5 => ?_
      (try dsimp only)
      exact hexc hle rfl _ _ _ _ _ _ _ _ _ _ hi3 hxc' hdc' hcc' (T5.sub (by k_allIn))
  · (rename Fr _ _ _ _ => lF)
    (rename News _ _ _ _ => lN)
    refine leaveK_ lF lN fun kF kN => ?_
    exact hno (by omega) _ _ (aft_of N G' lF lN)
end

example : True := by w_top off; trivial
structure DS where
  cur : List Int
  rf : List Int
  cp : Int
  col : Int
  y : Int
  buf : Array UInt8
/-- the decoder, as it lies on the heap -/
inductive DecAt (P : Params) (x dx : Nat) (wd : Int) (al rv : Bool) (pos acc st : Value) (n1 n2 : Option Value) (S : DS) (cells : List (Addr × Obj)) : Prop where
  | intro : ∀ (c r n nc nr : Nat) (k : Ks) (vc vr : List Value) (twd ty tcp tcol tb : Tok), cells = [(x, instObj 557 dx), (dx, dictOf (decEs P k pos (.int wd twd) (.bool al) (.int S.y ty) (.ref c) (.ref r) (.int S.cp tcp) (.int S.col tcol) acc st (.bool rv) (.bytes S.buf tb) n1 n2) n), (c, listOf vc.toArray nc), (r, listOf vr.toArray nr)] → x ≠ c → dx ≠ c → x ≠ r → dx ≠ r → c ≠ r → IntsAre vc S.cur → IntsAre vr S.rf → DecAt P x dx wd al rv pos acc st n1 n2 S cells
structure Ok (wd : Int) (S : DS) : Prop where
  hw0 : 1 ≤ wd
  hw : wd ≤ 12
  hlr : (S.rf.length : Int) = wd
  hlc : (S.cur.length : Int) = wd
  hbc : Bits S.cur
  hbr : Bits S.rf
  hcp : -1 ≤ S.cp
  hcp2 : S.cp < wd
  hcol : S.col = 0 ∨ S.col = 1
  hneg : S.cp < 0 → S.cur.set (wd - 1).toNat S.col = S.cur
/-- the place from which on the decoder fills -/
def DS.at0 (S : DS) : Int := if S.cp > 0 then S.cp else 0
def PassS (wd : Int) (S S' : DS) : Prop := ∃ x1 x2, IsFirst (stop1 S.rf S.col) (S.cp + 1) x1 ∧ x1 ≤ wd ∧ IsFirst (stop2 S.rf S.col) x1 x2 ∧ x2 ≤ wd ∧ S' = { S with cur := fillN S.cur S.col S.at0.toNat (x2 - S.at0).toNat, cp := x2 }
def clampW (wd a : Int) : Int := if (if a < wd then a else wd) > 0 then (if a < wd then a else wd) else 0
def VertS (wd d : Int) (S S' : DS) : Prop := ∃ x1 y1, IsFirst (stop1 S.rf S.col) (S.cp + 1) x1 ∧ x1 ≤ wd ∧ y1 = clampW wd (x1 + d) ∧
  S' = { S with cur := if y1 < S.at0 then fillN S.cur S.col y1.toNat (S.at0 - y1).toNat else fillN S.cur S.col S.at0.toNat (y1 - S.at0).toNat, cp := y1, col := 1 - S.col }
def HorS (wd m1 m2 : Int) (S : DS) : DS :=
  { S with cur := fillN (fillN S.cur S.col S.at0.toNat (roomed wd S.at0 m1)) (1 - S.col) (S.at0 + roomed wd S.at0 m1).toNat (roomed wd (S.at0 + roomed wd S.at0 m1) m2), cp := S.at0 + roomed wd S.at0 m1 + roomed wd (S.at0 + roomed wd S.at0 m1) m2 }
def rowOct (rv : Bool) (cur : List Int) : Array UInt8 := byteArr (packs ((cur.length + 7 : Int).fdiv 8).toNat (if rv then cur.map (fun b => 1 - b) else cur))
def flushed (wd : Int) (rv : Bool) (S : DS) : DS := { cur := List.replicate wd.toNat 1, rf := S.cur, cp := -1, col := 1, y := S.y + 1, buf := S.buf ++ rowOct rv S.cur }
def fin (wd : Int) (rv : Bool) (S : DS) : DS := if wd ≤ S.cp then flushed wd rv S else S
theorem PassS.facts {wd : Int} {S S' : DS} (W : Ok wd S) (h : PassS wd S S') : (S'.cur.length : Int) = wd ∧ Bits S'.cur ∧ S'.buf = S.buf := by
  refine wait fun cW hW => ?_
  obtain ⟨x1, x2, _, _, _, _, rfl⟩ := h
  refine hW ?_
  clear hW cW
  exact ⟨by show ((fillN _ _ _ _).length : Int) = wd; rw [fillN_length]; exact W.hlc, W.hbc.fill W.hcol _ _, rfl⟩
theorem VertS.facts {wd d : Int} {S S' : DS} (W : Ok wd S) (h : VertS wd d S S') : (S'.cur.length : Int) = wd ∧ Bits S'.cur ∧ S'.buf = S.buf := by
  refine wait fun cW hW => ?_
  obtain ⟨x1, y1, _, _, _, rfl⟩ := h
  refine hW ?_
  clear hW cW
  refine ⟨?_, ?_, rfl⟩
  · show ((if y1 < S.at0 then _ else _ : List Int).length : Int) = wd
    split <;> rw [fillN_length] <;> exact W.hlc
  · show Bits (if y1 < S.at0 then _ else _)
    split <;> exact W.hbc.fill W.hcol _ _
theorem flipCol {c : Int} (h : c = 0 ∨ c = 1) : 1 - c = 0 ∨ 1 - c = 1 := by omega
theorem HorS.facts {wd m1 m2 : Int} {S : DS} (W : Ok wd S) : ((HorS wd m1 m2 S).cur.length : Int) = wd ∧ Bits (HorS wd m1 m2 S).cur ∧ (HorS wd m1 m2 S).buf = S.buf := by
  refine ⟨?_, ?_, rfl⟩
  · show ((fillN _ _ _ _).length : Int) = wd
    rw [fillN_length, fillN_length]; exact W.hlc
  · exact (W.hbc.fill W.hcol _ _).fill (flipCol W.hcol) _ _
section
variable {w : World} {mean : ExcName → Option Value} {mg mb : Str → Option Value} {dp un : Nat} {gd : Option (List Code)} {cn : Str} {cs : Scope} {a : Addr} {ccd : Value} {cl : List (Str × Addr)} {outer : List Env} {A₀ : Around} {base h₀ : Heap} {L : Addr} {m : Str → Option Value} {s : Shared} {Q E : Value → Shared → Prop}
variable {x dx : Nat} {wd : Int} {al rv : Bool} {pos acc st : Value} {n1 n2 : Option Value} {S : DS} {cells : List (Addr × Obj)}
theorem DecAt.map (hD : DecAt w.params x dx wd al rv pos acc st n1 n2 S cells) : x ∈ cells.map (·.1) ∧ dx ∈ cells.map (·.1) := by
  refine wait fun cW hW => ?_
  obtain ⟨c, r, n, nc, nr, k, vc, vr, twd, ty, tcp, tcol, tb, rfl, _⟩ := hD
  refine hW ?_
  clear hW cW
  exact ⟨.head _, .tail _ (.head _)⟩
theorem flush_abs (C : Cx w mean mg mb cs outer A₀ base h₀ L m s.heap) (hD : DecAt w.params x dx wd al rv pos acc st n1 n2 S cells) (N : News h₀ L s.heap cells) (hxd : x ≠ dx) (hw0 : 1 ≤ wd) (hw : wd ≤ 12) (hlc : (S.cur.length : Int) = wd) (hb : Bits S.cur) (hbb : S.buf.size ≤ 1000000)
  (hdp : dp + 3 < recursionLimit) (hun : un + 40 < cLine)
  (hret : ∀ cells' h' tk', (wd ≤ S.cp → al = false) → DecAt w.params x dx wd al rv pos acc st n1 n2 (fin wd rv S) cells' → Aft s.heap h' (cells.map (·.1)) cells' → Q .none { s with heap := h', toks := tk' })
  (hexc : ∀ cells' e h' tk', wd ≤ S.cp → al = true → DecAt w.params x dx wd al rv pos acc st n1 n2 (fin wd rv S) cells' → Thrown base h₀ L m s.heap (cells.map (·.1)) (envX cn cs L a ccd cl :: outer) 407 cells' e h' → E (.ref e) { s with heap := h', toks := tk' }) :
  wpAny (model PG w) (ktrTop dp un gd cn cs L a ccd cl outer) (call (.ref 494) [.ref x]) Q E s := by
  refine wait fun cW hW => ?_
  obtain ⟨c, r, n, nc, nr, k, vc, vr, twd, ty, tcp, tcol, tb, rfl, hxc, hdc, hxr, hdr, hcr, hic, hir⟩ := hD
  refine hW ?_
  clear hW cW
  refine flush_line_tells x dx c r n nc nr k pos acc st al rv S.buf tb n1 n2 vc vr S.cur S.rf wd S.cp S.col S.y twd tcp tcol ty C N hxd hxc hdc hxr hdr hcr hw0 hw hlc hic hb hbb hdp hun ?_ ?_ ?_
  · intro hlt h' tk' D
    exact hret _ _ _ (fun q => absurd q (by omega)) (by rw [show fin wd rv S = S from if_neg (by omega)]; exact ⟨c, r, n, nc, nr, k, vc, vr, twd, ty, tcp, tcol, tb, rfl, hxc, hdc, hxr, hdr, hcr, hic, hir⟩) D
  · intro hle ha c' vs' tb2 ty2 t1 t2 nc' h' tk' hi h1 h2 h3 D
    exact hret _ _ _ (fun _ => ha) (by rw [show fin wd rv S = flushed wd rv S from if_pos hle]; exact ⟨c', c, n, nc', nc, k, vs', vc, twd, ty2, t1, t2, tb2, rfl, h1, h2, hxc, hdc, fun q => h3 q.symm, hi, hic⟩) D
  · intro hle ha c' vs' tb2 ty2 t1 t2 nc' e h' tk' hi h1 h2 h3 D
    exact hexc _ _ _ _ hle ha (by rw [show fin wd rv S = flushed wd rv S from if_pos hle]; exact ⟨c', c, n, nc', nc, k, vs', vc, twd, ty2, t1, t2, tb2, rfl, h1, h2, hxc, hdc, fun q => h3 q.symm, hi, hic⟩) D
theorem pass_abs (C : Cx w mean mg mb cs outer A₀ base h₀ L m s.heap) (hD : DecAt w.params x dx wd al rv pos acc st n1 n2 S cells) (N : News h₀ L s.heap cells) (hxd : x ≠ dx) (W : Ok wd S)
  (hdp : dp + 2 < recursionLimit) (hun : un + 30 < cLine)
  (hret : ∀ S' cells' h' tk', PassS wd S S' → DecAt w.params x dx wd al rv pos acc st n1 n2 S' cells' → Aft s.heap h' (cells.map (·.1)) cells' → Q .none { s with heap := h', toks := tk' }) :
  wpAny (model PG w) (ktrTop dp un gd cn cs L a ccd cl outer) (call (.ref 508) [.ref x]) Q E s := by
  refine wait fun cW hW => ?_
  obtain ⟨c, r, n, nc, nr, k, vc, vr, twd, ty, tcp, tcol, tb, rfl, hxc, hdc, hxr, hdr, hcr, hic, hir⟩ := hD
  refine hW ?_
  clear hW cW
  refine do_pass_tells x dx c r n nc nr k pos _ _ acc st _ _ n1 n2 vc vr S.cur S.rf wd S.cp S.col twd tcp tcol C N hxd hxc hdc hxr hdr hcr W.hw0 W.hw W.hlr W.hlc hic hir W.hcp W.hcp2 W.hcol W.hneg hdp hun ?_
  intro x1 x2 vc' t1 h' tk' h1 h2 h3 h4 hi D
  exact hret _ _ _ _ ⟨x1, x2, h1, h2, h3, h4, rfl⟩ ⟨c, r, n, nc, nr, k, vc', vr, twd, ty, t1, tcol, tb, rfl, hxc, hdc, hxr, hdr, hcr, hi, hir⟩ D
theorem vert_abs {d : Int} {td : Tok} (C : Cx w mean mg mb cs outer A₀ base h₀ L m s.heap) (hD : DecAt w.params x dx wd al rv pos acc st n1 n2 S cells) (N : News h₀ L s.heap cells) (hxd : x ≠ dx) (W : Ok wd S)
  (hd1 : -3 ≤ d) (hd2 : d ≤ 3) (hdp : dp + 2 < recursionLimit) (hun : un + 30 < cLine)
  (hret : ∀ S' cells' h' tk', VertS wd d S S' → DecAt w.params x dx wd al rv pos acc st n1 n2 S' cells' → Aft s.heap h' (cells.map (·.1)) cells' → Q .none { s with heap := h', toks := tk' }) :
  wpAny (model PG w) (ktrTop dp un gd cn cs L a ccd cl outer) (call (.ref 501) [.ref x, .int d td]) Q E s := by
  refine wait fun cW hW => ?_
  obtain ⟨c, r, n, nc, nr, k, vc, vr, twd, ty, tcp, tcol, tb, rfl, hxc, hdc, hxr, hdr, hcr, hic, hir⟩ := hD
  refine hW ?_
  clear hW cW
  refine do_vertical_tells x dx c r n nc nr k pos _ _ acc st _ _ n1 n2 vc vr S.cur S.rf wd S.cp S.col d twd tcp tcol td C N hxd hxc hdc hxr hdr hcr W.hw0 W.hw W.hlr W.hlc hic hir W.hcp W.hcp2 W.hcol hd1 hd2 hdp hun ?_
  intro x1 y1 vc' t1 t2 h' tk' h1 h2 h3 hi D
  exact hret _ _ _ _ ⟨x1, y1, h1, h2, h3, rfl⟩ ⟨c, r, n, nc, nr, k, vc', vr, twd, ty, t1, t2, tb, rfl, hxc, hdc, hxr, hdr, hcr, hi, hir⟩ D
theorem hor_abs {m1 m2 : Int} {tm1 tm2 : Tok} (C : Cx w mean mg mb cs outer A₀ base h₀ L m s.heap) (hD : DecAt w.params x dx wd al rv pos acc st n1 n2 S cells) (N : News h₀ L s.heap cells) (hxd : x ≠ dx) (W : Ok wd S)
  (hm1 : 0 ≤ m1) (hm1' : m1 ≤ 3000) (hm2 : 0 ≤ m2) (hm2' : m2 ≤ 3000) (hdp : dp + 2 < recursionLimit) (hun : un + 30 < cLine)
  (hret : ∀ cells' h' tk', DecAt w.params x dx wd al rv pos acc st n1 n2 (HorS wd m1 m2 S) cells' → Aft s.heap h' (cells.map (·.1)) cells' → Q .none { s with heap := h', toks := tk' }) :
  wpAny (model PG w) (ktrTop dp un gd cn cs L a ccd cl outer) (call (.ref 515) [.ref x, .int m1 tm1, .int m2 tm2]) Q E s := by
  refine wait fun cW hW => ?_
  obtain ⟨c, r, n, nc, nr, k, vc, vr, twd, ty, tcp, tcol, tb, rfl, hxc, hdc, hxr, hdr, hcr, hic, hir⟩ := hD
  refine hW ?_
  clear hW cW
  refine do_horizontal_tells x dx c r n nc nr k pos _ _ acc st _ _ n1 n2 vc vr S.cur wd S.cp S.col m1 m2 twd tcp tcol tm1 tm2 C N hxd hxc hdc hxr hdr hcr W.hw0 W.hw W.hlc hic W.hcp W.hcp2 W.hcol hm1 hm1' hm2 hm2' hdp hun ?_
  rintro y0 x1 x2 vc' t1 h' tk' rfl rfl rfl hi D
  exact hret _ _ _ ⟨c, r, n, nc, nr, k, vc', vr, twd, ty, t1, tcol, tb, rfl, hxc, hdc, hxr, hdr, hcr, hi, hir⟩ D
end

example : True := by w_top off; trivial
section
variable {w : World} {mean : ExcName → Option Value} {mg mb : Str → Option Value} {dp un : Nat} {gd : Option (List Code)} {cn : Str} {cs : Scope} {a : Addr} {ccd : Value} {cl : List (Str × Addr)} {outer : List Env} {A₀ : Around} {base h₀ : Heap} {L : Addr} {m : Str → Option Value} {s : Shared} {Q E : Value → Shared → Prop}
variable {x dx : Nat} {wd : Int} {al rv : Bool} {pos acc st : Value} {n1 n2 : Option Value} {S : DS} {cells : List (Addr × Obj)}
theorem parse_mode_p {tm : Tok} (C : Cx w mean mg mb cs outer A₀ base h₀ L m s.heap) (hD : DecAt w.params x dx wd al rv pos acc st n1 n2 S cells) (N : News h₀ L s.heap cells) (hxd : x ≠ dx) (W : Ok wd S) (hbb : S.buf.size ≤ 1000000) 
 (hdp : dp + 5 < recursionLimit) (hun : un + 60 < cLine)
 (hret : ∀ S' cells' h' tk', PassS wd S S' → (wd ≤ S'.cp → al = false) → DecAt w.params x dx wd al rv pos acc st n1 n2 (fin wd rv S') cells' → Aft s.heap h' (cells.map (·.1)) cells' → Q (.ref 139) { s with heap := h', toks := tk' })
 (hexc : ∀ S' cells' e h' tk', PassS wd S S' → wd ≤ S'.cp → al = true → DecAt w.params x dx wd al rv pos acc st n1 n2 (fin wd rv S') cells' → Thrown base h₀ L m s.heap (cells.map (·.1)) (envX cn cs L a ccd cl :: outer) 407 cells' e h' → E (.ref e) { s with heap := h', toks := tk' }) :
 codeAny (model PG w) (ktrTop dp un gd cn cs L a ccd cl outer) (.call (.ref 431) ⟨[.ref x, .str (Str.ofString "p") tm], []⟩) (fun r s' => match r with | .ok (.ret v) => Q v s' | .ok _ => False | .error e => E e s') s := by
  refine wait fun cW hW => ?_
  obtain ⟨B, F, X, T, hk⟩ := C
  refine hW ?_
  clear hW cW
  refine wait fun cW hW => ?_
  obtain ⟨c, r, n, nc, nr, k, vc, vr, twd, ty, tcp, tcol, tb, rfl, hxc, hdc, hxr, hdr, hcr, hic, hir⟩ := hD
  refine hW ?_
  clear hW cW
  (have hz : (PySem.Challenge.rw_ao0017_01 : OpenLaw) = PySem.Challenge.rw_ao0017_01 := rfl)
  (rename Frag.In _ _ => kX0)
  revert kX0 hz
  k_fill
  intro kX0 hz
  clear hz
  k_dflt cell_enter
  intro g' L' h' FG' F' N' B' X' T' G'
  have F1 : Fr g' L' h' (fun y => List.lookup y [(Str.ofString "mode", .str (Str.ofString "p") tm), (Str.ofString "self", Value.ref x)]) := F'
  clear F'
  (try dsimp only)
  (try k_fold)
  ktr_step
  (rename Fr _ _ _ _ => lF)
  (rename News _ _ _ _ => lN)
  (try dsimp only)
  have hD0 : DecAt w.params x dx wd al rv pos acc st n1 n2 S _ := ⟨c, r, n, nc, nr, k, vc, vr, twd, ty, tcp, tcol, tb, rfl, hxc, hdc, hxr, hdr, hcr, hic, hir⟩
  refine pass_abs (dp := dp + 1) (un := un + 3) ⟨B', lF, X', T', rfl⟩ hD0 lN hxd W (by omega) (by omega) ?_
  intro S' cells2 h2 tk2 hP hD2 D
  have F2 := fr_aft lF lN (fun _ h => h) D
  have N2 := news_aft lF lN (fun _ h => h) D
  refine wait fun cW hW => ?_
  obtain ⟨f1, f2, f3⟩ := hP.facts W
  refine hW ?_
  clear hW cW
  clear lF lN hD0
  refine wait fun cW hW => ?_
  obtain ⟨c2, r2, n2', nc2, nr2, k2, vc2, vr2, twd2, ty2, tcp2, tcol2, tb2, rfl, hxc2, hdc2, hxr2, hdr2, hcr2, hic2, hir2⟩ := hD2
  refine hW ?_
  clear hW cW
  (try dsimp only)
  ktr_step
  (rename Fr _ _ _ _ => lF)
  (rename News _ _ _ _ => lN)
  (try dsimp only)
  have hD0 : DecAt w.params x dx wd al rv pos acc st n1 n2 S' _ := ⟨c2, r2, n2', nc2, nr2, k2, vc2, vr2, twd2, ty2, tcp2, tcol2, tb2, rfl, hxc2, hdc2, hxr2, hdr2, hcr2, hic2, hir2⟩
  refine flush_abs (dp := dp + 1) (un := un + 3) ⟨B', lF, X', T', rfl⟩ hD0 lN hxd W.hw0 W.hw f1 f2 (by rw [f3]; exact hbb) (by omega) (by omega) ?_ ?_
  · intro cells3 h3 tk3 hal hD3 D3
    have F3 := fr_aft lF lN (fun _ h => h) D3
    have N3 := news_aft lF lN (fun _ h => h) D3
    clear lF lN hD0
    refine wait fun cW hW => ?_
    obtain ⟨c3, r3, n3', nc3, nr3, k3, vc3, vr3, twd3, ty3, tcp3, tcol3, tb3, rfl, hxc3, hdc3, hxr3, hdr3, hcr3, hic3, hir3⟩ := hD3
    refine hW ?_
    clear hW cW
    (try dsimp only)
    ktr_step
    (rename Fr _ _ _ _ => lF)
    (rename News _ _ _ _ => lN)
    refine leaveK_ lF lN fun kF kN => ?_
    exact hret S' _ _ _ hP hal ⟨c3, r3, n3', nc3, nr3, k3, vc3, vr3, twd3, ty3, tcp3, tcol3, tb3, rfl, hxc3, hdc3, hxr3, hdr3, hcr3, hic3, hir3⟩ (aft_of N G' lF lN)
  · intro cells3 e h3 tk3 hle hal hD3 T3
    (try dsimp only)
    refine thrown_on B' T3 FG' G' fun h5 T5 => ?_
    exact hexc S' _ _ _ _ hP hle hal hD3 T5
theorem parse_mode_v {d : Int} {tm : Tok} (C : Cx w mean mg mb cs outer A₀ base h₀ L m s.heap) (hD : DecAt w.params x dx wd al rv pos acc st n1 n2 S cells) (N : News h₀ L s.heap cells) (hxd : x ≠ dx) (W : Ok wd S) (hbb : S.buf.size ≤ 1000000) (hd1 : -3 ≤ d) (hd2 : d ≤ 3)
 (hdp : dp + 5 < recursionLimit) (hun : un + 60 < cLine)
 (hret : ∀ S' cells' h' tk', VertS wd d S S' → (wd ≤ S'.cp → al = false) → DecAt w.params x dx wd al rv pos acc st n1 n2 (fin wd rv S') cells' → Aft s.heap h' (cells.map (·.1)) cells' → Q (.ref 139) { s with heap := h', toks := tk' })
 (hexc : ∀ S' cells' e h' tk', VertS wd d S S' → wd ≤ S'.cp → al = true → DecAt w.params x dx wd al rv pos acc st n1 n2 (fin wd rv S') cells' → Thrown base h₀ L m s.heap (cells.map (·.1)) (envX cn cs L a ccd cl :: outer) 407 cells' e h' → E (.ref e) { s with heap := h', toks := tk' }) :
 codeAny (model PG w) (ktrTop dp un gd cn cs L a ccd cl outer) (.call (.ref 431) ⟨[.ref x, .int d tm], []⟩) (fun r s' => match r with | .ok (.ret v) => Q v s' | .ok _ => False | .error e => E e s') s := by
  refine wait fun cW hW => ?_
  obtain ⟨B, F, X, T, hk⟩ := C
  refine hW ?_
  clear hW cW
  refine wait fun cW hW => ?_
  obtain ⟨c, r, n, nc, nr, k, vc, vr, twd, ty, tcp, tcol, tb, rfl, hxc, hdc, hxr, hdr, hcr, hic, hir⟩ := hD
  refine hW ?_
  clear hW cW
  (have hz : (PySem.Challenge.rw_ao0017_01 : OpenLaw) = PySem.Challenge.rw_ao0017_01 := rfl)
  (rename Frag.In _ _ => kX0)
  revert kX0 hz
  k_fill
  intro kX0 hz
  clear hz
  k_dflt cell_enter
  intro g' L' h' FG' F' N' B' X' T' G'
  have F1 : Fr g' L' h' (fun y => List.lookup y [(Str.ofString "mode", .int d tm), (Str.ofString "self", Value.ref x)]) := F'
  clear F'
  (try dsimp only)
  (try k_fold)
  ktr_step
  (rename Fr _ _ _ _ => lF)
  (rename News _ _ _ _ => lN)
  (try dsimp only)
  have hD0 : DecAt w.params x dx wd al rv pos acc st n1 n2 S _ := ⟨c, r, n, nc, nr, k, vc, vr, twd, ty, tcp, tcol, tb, rfl, hxc, hdc, hxr, hdr, hcr, hic, hir⟩
  refine vert_abs (dp := dp + 1) (un := un + 3) ⟨B', lF, X', T', rfl⟩ hD0 lN hxd W hd1 hd2 (by omega) (by omega) ?_
  intro S' cells2 h2 tk2 hP hD2 D
  have F2 := fr_aft lF lN (fun _ h => h) D
  have N2 := news_aft lF lN (fun _ h => h) D
  refine wait fun cW hW => ?_
  obtain ⟨f1, f2, f3⟩ := hP.facts W
  refine hW ?_
  clear hW cW
  clear lF lN hD0
  refine wait fun cW hW => ?_
  obtain ⟨c2, r2, n2', nc2, nr2, k2, vc2, vr2, twd2, ty2, tcp2, tcol2, tb2, rfl, hxc2, hdc2, hxr2, hdr2, hcr2, hic2, hir2⟩ := hD2
  refine hW ?_
  clear hW cW
  (try dsimp only)
  ktr_step
  (rename Fr _ _ _ _ => lF)
  (rename News _ _ _ _ => lN)
  (try dsimp only)
  have hD0 : DecAt w.params x dx wd al rv pos acc st n1 n2 S' _ := ⟨c2, r2, n2', nc2, nr2, k2, vc2, vr2, twd2, ty2, tcp2, tcol2, tb2, rfl, hxc2, hdc2, hxr2, hdr2, hcr2, hic2, hir2⟩
  refine flush_abs (dp := dp + 1) (un := un + 3) ⟨B', lF, X', T', rfl⟩ hD0 lN hxd W.hw0 W.hw f1 f2 (by rw [f3]; exact hbb) (by omega) (by omega) ?_ ?_
  · intro cells3 h3 tk3 hal hD3 D3
    have F3 := fr_aft lF lN (fun _ h => h) D3
    have N3 := news_aft lF lN (fun _ h => h) D3
    clear lF lN hD0
    refine wait fun cW hW => ?_
    obtain ⟨c3, r3, n3', nc3, nr3, k3, vc3, vr3, twd3, ty3, tcp3, tcol3, tb3, rfl, hxc3, hdc3, hxr3, hdr3, hcr3, hic3, hir3⟩ := hD3
    refine hW ?_
    clear hW cW
    (try dsimp only)
    ktr_step
    (rename Fr _ _ _ _ => lF)
    (rename News _ _ _ _ => lN)
    refine leaveK_ lF lN fun kF kN => ?_
    exact hret S' _ _ _ hP hal ⟨c3, r3, n3', nc3, nr3, k3, vc3, vr3, twd3, ty3, tcp3, tcol3, tb3, rfl, hxc3, hdc3, hxr3, hdr3, hcr3, hic3, hir3⟩ (aft_of N G' lF lN)
  · intro cells3 e h3 tk3 hle hal hD3 T3
    (try dsimp only)
    refine thrown_on B' T3 FG' G' fun h5 T5 => ?_
    exact hexc S' _ _ _ _ hP hle hal hD3 T5
theorem parse_mode_e {tm : Tok} (C : Cx w mean mg mb cs outer A₀ base h₀ L m s.heap) (hD : DecAt w.params x dx wd al rv pos acc st n1 n2 S cells) (N : News h₀ L s.heap cells) (hxd : x ≠ dx) 
 (hdp : dp + 5 < recursionLimit) (hun : un + 60 < cLine)
 (hexc : ∀ cells' e h' tk', DecAt w.params x dx wd al rv pos acc st n1 n2 S cells' → Thrown base h₀ L m s.heap (cells.map (·.1)) (envX cn cs L a ccd cl :: outer) 383 cells' e h' → E (.ref e) { s with heap := h', toks := tk' }) :
 codeAny (model PG w) (ktrTop dp un gd cn cs L a ccd cl outer) (.call (.ref 431) ⟨[.ref x, .str (Str.ofString "e") tm], []⟩) (fun r s' => match r with | .ok (.ret v) => Q v s' | .ok _ => False | .error e => E e s') s := by
  refine wait fun cW hW => ?_
  obtain ⟨B, F, X, T, hk⟩ := C
  refine hW ?_
  clear hW cW
  refine wait fun cW hW => ?_
  obtain ⟨c, r, n, nc, nr, k, vc, vr, twd, ty, tcp, tcol, tb, rfl, hxc, hdc, hxr, hdr, hcr, hic, hir⟩ := hD
  refine hW ?_
  clear hW cW
  (have hz : (PySem.Challenge.rw_ao0017_01 : OpenLaw) = PySem.Challenge.rw_ao0017_01 := rfl)
  (rename Frag.In _ _ => kX0)
  revert kX0 hz
  k_fill
  intro kX0 hz
  clear hz
  k_dflt cell_enter
  intro g' L' h' FG' F' N' B' X' T' G'
  have F1 : Fr g' L' h' (fun y => List.lookup y [(Str.ofString "mode", .str (Str.ofString "e") tm), (Str.ofString "self", Value.ref x)]) := F'
  clear F'
  (try dsimp only)
  (try k_fold)
  ktr_step
  (rename Fr _ _ _ _ => lF)
  (rename News _ _ _ _ => lN)
  have Ocl := cls_of (C := 383) X' (exc_eofb X')
  refine ⟨383, rfl, Ocl.keeps lF.keep, fun h4 e M4 => ?_⟩
  (try dsimp only)
  refine thrown_new B' M4 lF lN FG' G' fun h5 T5 => ?_
  exact hexc _ _ _ _ ⟨c, r, n, nc, nr, k, vc, vr, twd, ty, tcp, tcol, tb, rfl, hxc, hdc, hxr, hdr, hcr, hic, hir⟩ T5
end

example : True := by w_top off; trivial
section
variable {w : World} {mean : ExcName → Option Value} {mg mb : Str → Option Value} {dp un : Nat} {gd : Option (List Code)} {cn : Str} {cs : Scope} {a : Addr} {ccd : Value} {cl : List (Str × Addr)} {outer : List Env} {A₀ : Around} {base h₀ : Heap} {L : Addr} {m : Str → Option Value} {s : Shared} {Q E : Value → Shared → Prop}
variable {x dx : Nat} {wd : Int} {al rv : Bool} {pos acc st : Value} {n1 n2 : Option Value} {S : DS} {cells : List (Addr × Obj)}
/-- the tree of the runs of a colour -/
def runTree (col : Int) : Value := .ref (if col ≠ 0 then 243 else 347)
theorem parse_mode_h {tm : Tok} (C : Cx w mean mg mb cs outer A₀ base h₀ L m s.heap) (hD : DecAt w.params x dx wd al rv pos acc st n1 n2 S cells) (N : News h₀ L s.heap cells) (hxd : x ≠ dx) (hcol : S.col = 0 ∨ S.col = 1) (hnn : n1 = none → n2 = none)
 (hdp : dp + 5 < recursionLimit) (hun : un + 60 < cLine)
 (hret : ∀ cells' (mt : Nat) t v h' tk', DecAt w.params x dx wd al rv pos (.ref mt) st (some (.int 0 t)) n2 S cells' → Aft s.heap h' (cells.map (·.1)) ((mt, methodObj (.ref 438) (.ref x)) :: cells') → (∀ p ∈ cells', p.1 ≠ mt) → v = runTree S.col → Q v { s with heap := h', toks := tk' }) :
 codeAny (model PG w) (ktrTop dp un gd cn cs L a ccd cl outer) (.call (.ref 431) ⟨[.ref x, .str (Str.ofString "h") tm], []⟩) (fun r s' => match r with | .ok (.ret v) => Q v s' | .ok _ => False | .error e => E e s') s := by
  refine wait fun cW hW => ?_
  obtain ⟨B, F, X, T, hk⟩ := C
  refine hW ?_
  clear hW cW
  refine wait fun cW hW => ?_
  obtain ⟨c, r, n, nc, nr, k, vc, vr, twd, ty, tcp, tcol, tb, rfl, hxc, hdc, hxr, hdr, hcr, hic, hir⟩ := hD
  refine hW ?_
  clear hW cW
  cases n1 with
  | none =>
   obtain rfl := hnn rfl
   (have hz : (PySem.Challenge.rw_ao0017_01 : OpenLaw) = PySem.Challenge.rw_ao0017_01 := rfl)
   (rename Frag.In _ _ => kX0)
   revert kX0 hz
   k_fill
   intro kX0 hz
   clear hz
   k_dflt cell_enter
   intro g' L' h' FG' F' N' B' X' T' G'
   have F1 : Fr g' L' h' (fun y => List.lookup y [(Str.ofString "mode", .str (Str.ofString "h") tm), (Str.ofString "self", Value.ref x)]) := F'
   clear F'
   (try dsimp only)
   (try k_fold)
   ktr_step
   all_goals (rename Fr _ _ _ _ => lF)
   all_goals (rename News _ _ _ _ => lN)
   all_goals (try dsimp only)
   all_goals refine leaveK_ lF lN fun kF kN => ?_
   all_goals exact hret _ _ _ _ _ _ ⟨c, r, _, nc, nr, _, vc, vr, twd, ty, tcp, tcol, tb, rfl, hxc, hdc, hxr, hdr, hcr, hic, hir⟩ (aft_of N G' lF (news_sub lN (by k_allIn))) (fun p hp => by (simp only [List.mem_cons, List.not_mem_nil, or_false] at hp; rcases hp with rfl | rfl | rfl | rfl <;> exact fun e => absurd (show (_ : Nat) = _ from e) (by omega))) (by unfold runTree; split <;> first | rfl | omega)
  | some v =>
   (have hz : (PySem.Challenge.rw_ao0017_01 : OpenLaw) = PySem.Challenge.rw_ao0017_01 := rfl)
   (rename Frag.In _ _ => kX0)
   revert kX0 hz
   k_fill
   intro kX0 hz
   clear hz
   k_dflt cell_enter
   intro g' L' h' FG' F' N' B' X' T' G'
   have F1 : Fr g' L' h' (fun y => List.lookup y [(Str.ofString "mode", .str (Str.ofString "h") tm), (Str.ofString "self", Value.ref x)]) := F'
   clear F'
   (try dsimp only)
   (try k_fold)
   ktr_step
   all_goals (rename Fr _ _ _ _ => lF)
   all_goals (rename News _ _ _ _ => lN)
   all_goals (try dsimp only)
   all_goals refine leaveK_ lF lN fun kF kN => ?_
   all_goals exact hret _ _ _ _ _ _ ⟨c, r, _, nc, nr, _, vc, vr, twd, ty, tcp, tcol, tb, rfl, hxc, hdc, hxr, hdr, hcr, hic, hir⟩ (aft_of N G' lF (news_sub lN (by k_allIn))) (fun p hp => by (simp only [List.mem_cons, List.not_mem_nil, or_false] at hp; rcases hp with rfl | rfl | rfl | rfl <;> exact fun e => absurd (show (_ : Nat) = _ from e) (by omega))) (by unfold runTree; split <;> first | rfl | omega)
end

example : True := by w_top off; trivial
section
variable {w : World} {mean : ExcName → Option Value} {mg mb : Str → Option Value} {dp un : Nat} {gd : Option (List Code)} {cn : Str} {cs : Scope} {a : Addr} {ccd : Value} {cl : List (Str × Addr)} {outer : List Env} {A₀ : Around} {base h₀ : Heap} {L : Addr} {m : Str → Option Value} {s : Shared} {Q E : Value → Shared → Prop}
variable {x dx : Nat} {wd : Int} {al rv : Bool} {pos acc st : Value} {n1 n2 : Option Value} {S : DS} {cells : List (Addr × Obj)}
theorem parse_h1_tells {m1 m2 : Int} {t1 tm : Tok} (C : Cx w mean mg mb cs outer A₀ base h₀ L m s.heap) (hD : DecAt w.params x dx wd al rv pos acc st (some (.int m1 t1)) n2 S cells) (N : News h₀ L s.heap cells) (hxd : x ≠ dx) (hcol : S.col = 0 ∨ S.col = 1) (hm : m2 < 64)
 (hdp : dp + 5 < recursionLimit) (hun : un + 60 < cLine)
 (hret : ∀ cells' (mt : Nat) ta tb v h' tk', DecAt w.params x dx wd al rv pos (.ref mt) st (some (.int (m1 + m2) ta)) (some (.int 0 tb)) { S with col := 1 - S.col } cells' → Aft s.heap h' (cells.map (·.1)) ((mt, methodObj (.ref 445) (.ref x)) :: cells') → (∀ p ∈ cells', p.1 ≠ mt) → v = runTree (1 - S.col) → Q v { s with heap := h', toks := tk' }) :
 codeAny (model PG w) (ktrTop dp un gd cn cs L a ccd cl outer) (.call (.ref 438) ⟨[.ref x, .int m2 tm], []⟩) (fun r s' => match r with | .ok (.ret v) => Q v s' | .ok _ => False | .error e => E e s') s := by
  refine wait fun cW hW => ?_
  obtain ⟨B, F, X, T, hk⟩ := C
  refine hW ?_
  clear hW cW
  refine wait fun cW hW => ?_
  obtain ⟨c, r, n, nc, nr, k, vc, vr, twd, ty, tcp, tcol, tb, rfl, hxc, hdc, hxr, hdr, hcr, hic, hir⟩ := hD
  refine hW ?_
  clear hW cW
  cases n2 with
  | none =>
   (have hz : (PySem.Challenge.rw_ao0017_01 : OpenLaw) = PySem.Challenge.rw_ao0017_01 := rfl)
   (rename Frag.In _ _ => kX0)
   revert kX0 hz
   k_fill
   intro kX0 hz
   clear hz
   k_dflt cell_enter
   intro g' L' h' FG' F' N' B' X' T' G'
   have F1 : Fr g' L' h' (fun y => List.lookup y [(Str.ofString "n", .int m2 tm), (Str.ofString "self", Value.ref x)]) := F'
   clear F'
   (try dsimp only)
   (try k_fold)
   ktr_step
   all_goals (rename Fr _ _ _ _ => lF)
   all_goals (rename News _ _ _ _ => lN)
   all_goals (try dsimp only)
   all_goals refine leaveK_ lF lN fun kF kN => ?_
   all_goals exact hret _ _ _ _ _ _ _ ⟨c, r, _, nc, nr, _, vc, vr, twd, ty, tcp, _, tb, rfl, hxc, hdc, hxr, hdr, hcr, hic, hir⟩ (aft_of N G' lF (news_sub lN (by k_allIn))) (fun p hp => by (simp only [List.mem_cons, List.not_mem_nil, or_false] at hp; rcases hp with rfl | rfl | rfl | rfl <;> exact fun e => absurd (show (_ : Nat) = _ from e) (by omega))) (by unfold runTree; split <;> first | rfl | omega)
  | some v =>
   (have hz : (PySem.Challenge.rw_ao0017_01 : OpenLaw) = PySem.Challenge.rw_ao0017_01 := rfl)
   (rename Frag.In _ _ => kX0)
   revert kX0 hz
   k_fill
   intro kX0 hz
   clear hz
   k_dflt cell_enter
   intro g' L' h' FG' F' N' B' X' T' G'
   have F1 : Fr g' L' h' (fun y => List.lookup y [(Str.ofString "n", .int m2 tm), (Str.ofString "self", Value.ref x)]) := F'
   clear F'
   (try dsimp only)
   (try k_fold)
   ktr_step
   all_goals (rename Fr _ _ _ _ => lF)
   all_goals (rename News _ _ _ _ => lN)
   all_goals (try dsimp only)
   all_goals refine leaveK_ lF lN fun kF kN => ?_
   all_goals exact hret _ _ _ _ _ _ _ ⟨c, r, _, nc, nr, _, vc, vr, twd, ty, tcp, _, tb, rfl, hxc, hdc, hxr, hdr, hcr, hic, hir⟩ (aft_of N G' lF (news_sub lN (by k_allIn))) (fun p hp => by (simp only [List.mem_cons, List.not_mem_nil, or_false] at hp; rcases hp with rfl | rfl | rfl | rfl <;> exact fun e => absurd (show (_ : Nat) = _ from e) (by omega))) (by unfold runTree; split <;> first | rfl | omega)
theorem parse_h2_tells {m1 m2 v2 : Int} {t1 t2 tm : Tok} (C : Cx w mean mg mb cs outer A₀ base h₀ L m s.heap) (hD : DecAt w.params x dx wd al rv pos acc st (some (.int m1 t1)) (some (.int v2 t2)) S cells) (N : News h₀ L s.heap cells) (hxd : x ≠ dx) (W : Ok wd { S with col := 1 - S.col }) (hbb : S.buf.size ≤ 1000000) (hm : m2 < 64) (hm0 : 0 ≤ v2 + m2) (hm2 : v2 + m2 ≤ 3000) (hm1 : 0 ≤ m1) (hm1' : m1 ≤ 3000)
 (hdp : dp + 5 < recursionLimit) (hun : un + 60 < cLine)
 (hret : ∀ cells' (mt : Nat) t2' h' tk', (wd ≤ (HorS wd m1 (v2 + m2) { S with col := 1 - S.col }).cp → al = false) → DecAt w.params x dx wd al rv pos (.ref mt) st (some (.int m1 t1)) (some (.int (v2 + m2) t2')) (fin wd rv (HorS wd m1 (v2 + m2) { S with col := 1 - S.col })) cells' → Aft s.heap h' (cells.map (·.1)) ((mt, methodObj (.ref 431) (.ref x)) :: cells') → (∀ p ∈ cells', p.1 ≠ mt) → Q (.ref 139) { s with heap := h', toks := tk' })
 (hexc : ∀ cells' acc' t2' e h' tk', wd ≤ (HorS wd m1 (v2 + m2) { S with col := 1 - S.col }).cp → al = true → DecAt w.params x dx wd al rv pos acc' st (some (.int m1 t1)) (some (.int (v2 + m2) t2')) (fin wd rv (HorS wd m1 (v2 + m2) { S with col := 1 - S.col })) cells' → Thrown base h₀ L m s.heap (cells.map (·.1)) (envX cn cs L a ccd cl :: outer) 407 cells' e h' → E (.ref e) { s with heap := h', toks := tk' }) :
 codeAny (model PG w) (ktrTop dp un gd cn cs L a ccd cl outer) (.call (.ref 445) ⟨[.ref x, .int m2 tm], []⟩) (fun r s' => match r with | .ok (.ret v) => Q v s' | .ok _ => False | .error e => E e s') s := by
   refine wait fun cW hW => ?_
   obtain ⟨B, F, X, T, hk⟩ := C
   refine hW ?_
   clear hW cW
   refine wait fun cW hW => ?_
   obtain ⟨c, r, n, nc, nr, k, vc, vr, twd, ty, tcp, tcol, tb, rfl, hxc, hdc, hxr, hdr, hcr, hic, hir⟩ := hD
   refine hW ?_
   clear hW cW
   (have hz : (PySem.Challenge.rw_ao0017_01 : OpenLaw) = PySem.Challenge.rw_ao0017_01 := rfl)
   (rename Frag.In _ _ => kX0)
   revert kX0 hz
   k_fill
   intro kX0 hz
   clear hz
   k_dflt cell_enter
   intro g' L' h' FG' F' N' B' X' T' G'
   have F1 : Fr g' L' h' (fun y => List.lookup y [(Str.ofString "n", .int m2 tm), (Str.ofString "self", Value.ref x)]) := F'
   clear F'
   (try dsimp only)
   (try k_fold)
   ktr_step
   (rename Fr _ _ _ _ => lF)
   (rename News _ _ _ _ => lN)
   (try dsimp only)
   have hex : ∃ (mt : Nat) (t2 : Tok) (cells0 : List (Addr × Obj)), DecAt w.params x dx wd al rv pos (.ref mt) st (some (.int m1 t1)) (some (.int (v2 + m2) t2)) { S with col := 1 - S.col } cells0 ∧ News g' L' _ ((mt, methodObj (.ref 431) (.ref x)) :: cells0) ∧ (∀ p ∈ cells0, p.1 ≠ mt) := ⟨_, _, _, ⟨c, r, _, nc, nr, _, vc, vr, twd, ty, tcp, _, tb, rfl, hxc, hdc, hxr, hdr, hcr, hic, hir⟩, news_sub lN (by k_allIn), (fun p hp => by (simp only [List.mem_cons, List.not_mem_nil, or_false] at hp; rcases hp with rfl | rfl | rfl | rfl <;> exact fun e => absurd (show (_ : Nat) = _ from e) (by omega)))⟩
   refine wait fun cW hW => ?_
   obtain ⟨mt, t2', cells0, hD0, N0, off0⟩ := hex
   refine hW ?_
   clear hW cW
   have N4 : News g' L' _ cells0 := news_sub N0 (fun p hp => List.mem_cons_of_mem _ hp)
   refine hor_abs (dp := dp + 1) (un := un + 3) ⟨B', lF, X', T', rfl⟩ hD0 N4 hxd W (by omega) (by omega) (by omega) (by omega) (by omega) (by omega) ?_
   intro cells2 h2 tk2 hD2 D
   refine wait fun cW hW => ?_
   obtain ⟨F2, N2, off2⟩ := aft_beside lF N0 off0 D
   refine hW ?_
   clear hW cW
   refine wait fun cW hW => ?_
   obtain ⟨f1, f2, f3⟩ := HorS.facts (m1 := m1) (m2 := v2 + m2) W
   refine hW ?_
   clear hW cW
   clear lF lN N0 N4 hD0 D off0
   refine wait fun cW hW => ?_
   obtain ⟨c2, r2, n2', nc2, nr2, k2, vc2, vr2, twd2, ty2, tcp2, tcol2, tb2, rfl, hxc2, hdc2, hxr2, hdr2, hcr2, hic2, hir2⟩ := hD2
   refine hW ?_
   clear hW cW
   (try dsimp only)
   ktr_step
   (rename Fr _ _ _ _ => lF)
   (rename News _ _ _ _ => lN)
   (try dsimp only)
   have hD0 : DecAt w.params x dx wd al rv pos (.ref mt) st (some (.int m1 t1)) (some (.int (v2 + m2) t2')) (HorS wd m1 (v2 + m2) { S with col := 1 - S.col }) _ := ⟨c2, r2, n2', nc2, nr2, k2, vc2, vr2, twd2, ty2, tcp2, tcol2, tb2, rfl, hxc2, hdc2, hxr2, hdr2, hcr2, hic2, hir2⟩
   refine flush_abs (dp := dp + 1) (un := un + 3) ⟨B', lF, X', T', rfl⟩ hD0 (news_sub lN (fun p hp => List.mem_cons_of_mem _ hp)) hxd W.hw0 W.hw f1 f2 (by rw [f3]; exact hbb) (by omega) (by omega) ?_ ?_
   · intro cells3 h3 tk3 hal hD3 D3
     refine wait fun cW hW => ?_
     obtain ⟨F3, N3, off3⟩ := aft_beside lF lN off2 D3
     refine hW ?_
     clear hW cW
     clear lF lN hD0 off2
     refine wait fun cW hW => ?_
     obtain ⟨c3, r3, n3', nc3, nr3, k3, vc3, vr3, twd3, ty3, tcp3, tcol3, tb3, rfl, hxc3, hdc3, hxr3, hdr3, hcr3, hic3, hir3⟩ := hD3
     refine hW ?_
     clear hW cW
     (try dsimp only)
     ktr_step
     (rename Fr _ _ _ _ => lF)
     (rename News _ _ _ _ => lN)
     refine leaveK_ lF lN fun kF kN => ?_
     exact hret _ _ _ _ _ hal ⟨c3, r3, n3', nc3, nr3, k3, vc3, vr3, twd3, ty3, tcp3, tcol3, tb3, rfl, hxc3, hdc3, hxr3, hdr3, hcr3, hic3, hir3⟩ (aft_of N G' lF lN) off3
   · intro cells3 e h3 tk3 hle hal hD3 T3
     (try dsimp only)
     refine thrown_on B' T3 FG' G' fun h5 T5 => ?_
     exact hexc _ _ _ _ _ _ hle hal hD3 T5
end

example : True := by w_top off; trivial
section
variable {prog : Program} {w : World} {A : Around} {E : Value → Shared → Prop} {s : Shared} {h₀ : Heap} {L : Addr} {m : Str → Option Value} {K : Frag} {node : Addr} {v0 v1 : Value} {nn : Nat} {u : Tok} {value slice : PySem.Expr} {Q : Value → Shared → Prop}
theorem node_list (X : K.In h₀) (F : Fr h₀ L s.heap m) (hn : K.lookup node = some (listOf #[v0, v1] nn)) : s.heap.IsList node #[v0, v1] := ⟨_, F.keep _ _ (X _ _ hn), rfl, nn, rfl⟩
theorem node_item1 (X : K.In h₀) (F : Fr h₀ L s.heap m) (hn : K.lookup node = some (listOf #[v0, v1] nn)) (h : Q v1 s)
   (hs : subscripted slice false (.ref node) (.int 1 u) = operate [.ref node, .int 1 u] (getItem (.ref node) (.int 1 u)) := by with_unfolding_all rfl) : wpAny (model prog w) A (subscriptTail value slice (.ref node) (.int 1 u)) Q E s :=
  tail_any (node_list X F hn).typeIs slot_list_getitem.lookup (wpAny_getItem_list (node_list X F hn) (by decide) (by decide) rfl h) hs
theorem node_item0 (X : K.In h₀) (F : Fr h₀ L s.heap m) (hn : K.lookup node = some (listOf #[v0, v1] nn)) (h : Q v0 s)
   (hs : subscripted slice false (.ref node) (.int 0 u) = operate [.ref node, .int 0 u] (getItem (.ref node) (.int 0 u)) := by with_unfolding_all rfl) : wpAny (model prog w) A (subscriptTail value slice (.ref node) (.int 0 u)) Q E s :=
  tail_any (node_list X F hn).typeIs slot_list_getitem.lookup (wpAny_getItem_list (node_list X F hn) (by decide) (by decide) rfl h) hs
end
theorem node_isl {prog : Program} {w : World} {A : Around} {E : Value → Shared → Prop} {s : Shared} {h₀ : Heap} {L : Addr} {m : Str → Option Value} {K : Frag} {node : Addr} {its : Array Value} {nn : Nat} {Q : Value → Shared → Prop} (X : K.In h₀) (F : Fr h₀ L s.heap m) (hn : K.lookup node = some (listOf its nn)) (h : Q (.bool true) s) :
   wpAny (model prog w) A (call (.builtin "isinstance") [.ref node, .type "list"]) Q E s :=
  call_isinstance_yes (Tx := "list") (T := "list") ⟨_, F.keep _ _ (X _ _ hn), rfl⟩ (by kernel_rfl) (by rw [isSubtype_type]; kernel_rfl) h
/-- what a call of an accepting method does -/
def AccTells (w : World) (mean : ExcName → Option Value) (mg mb : Str → Option Value) (x : Addr) (fn : Addr) (v : Value) (I : List (Addr × Obj) → Prop) (O : Value → List (Addr × Obj) → List (Addr × Obj) → Prop) (X : Addr → List (Addr × Obj) → Prop) : Prop :=
  ∀ (dp un : Nat) (gd : Option (List Code)) (cn : Str) (cs : Scope) (a : Addr) (ccd : Value) (cl : List (Str × Addr)) (outer : List Env) (A₀ : Around) (base h₀ : Heap) (L : Addr) (m : Str → Option Value) (s : Shared) (Q E : Value → Shared → Prop) (cells : List (Addr × Obj)),
   Cx w mean mg mb cs outer A₀ base h₀ L m s.heap → I cells → News h₀ L s.heap cells → dp + 5 < recursionLimit → un + 60 < cLine →
   (∀ v' cells' ex h' tk', O v' cells' ex → OwnOff ex (cells'.map (·.1)) → Aft s.heap h' (cells.map (·.1)) (ex ++ cells') → Q v' { s with heap := h', toks := tk' }) →
   (∀ C cells' e h' tk', X C cells' → Thrown base h₀ L m s.heap (cells.map (·.1)) (envX cn cs L a ccd cl :: outer) C cells' e h' → E (.ref e) { s with heap := h', toks := tk' }) →
   codeAny (model PG w) (ktrTop dp un gd cn cs L a ccd cl outer) (.call (.ref fn) ⟨[.ref x, v], []⟩) (fun r s' => match r with | .ok (.ret v) => Q v s' | .ok _ => False | .error e => E e s') s
theorem off4L {x dx c r mt : Nat} {a b d e : Obj} (o1 : x ≠ mt) (o2 : dx ≠ mt) (o3 : c ≠ mt) (o4 : r ≠ mt) : ∀ p ∈ ([(x, a), (dx, b), (c, d), (r, e)] : List (Addr × Obj)), p.1 ≠ mt := fun p hp => by
  simp only [List.mem_cons, List.not_mem_nil, or_false] at hp
  rcases hp with rfl | rfl | rfl | rfl
  · exact o1
  · exact o2
  · exact o3
  · exact o4
theorem newsB {h₀ h : Heap} {L : Addr} {ex cells : List (Addr × Obj)} {p : Addr × Obj} (N : News h₀ L h ((ex ++ cells) ++ [p])) : News h₀ L h (cells ++ p :: ex) := fun q hq => N q (by
  rcases List.mem_append.mp hq with z | z
  · exact List.mem_append_left _ (List.mem_append_right _ z)
  · rcases List.mem_cons.mp z with rfl | z
    · exact List.mem_append_right _ (.head _)
    · exact List.mem_append_left _ (List.mem_append_left _ z))
theorem own_off {mt : Nat} {o : Obj} {ex cells : List (Addr × Obj)} (h1 : OwnOff ex (cells.map (·.1))) (h2 : ∀ p ∈ ex ++ cells, p.1 ≠ mt) : OwnOff ((mt, o) :: ex) (cells.map (·.1)) := fun p hp b hb => by
  rcases List.mem_cons.mp hp with rfl | hp
  · obtain ⟨q, hq, e⟩ := List.mem_map.mp hb
    exact fun z => h2 q (List.mem_append_right _ hq) (e.trans z.symm)
  · exact h1 p hp b hb
theorem own_one {mt : Nat} {o : Obj} {cells : List (Addr × Obj)} (h : ∀ p ∈ cells, p.1 ≠ mt) : OwnOff [((mt, o) : Addr × Obj)] (cells.map (·.1)) := fun p hp b hb => by
  rw [List.mem_singleton.mp hp]
  obtain ⟨q, hq, e⟩ := List.mem_map.mp hb
  exact fun z => h q hq (e.trans z.symm)
theorem sub_old {a : Addr × Obj} {cs ex : List (Addr × Obj)} : ∀ p ∈ a :: cs, p ∈ cs ++ a :: ex := fun p hp => by
  rcases List.mem_cons.mp hp with rfl | hp
  · exact List.mem_append_right _ (.head _)
  · exact List.mem_append_left _ hp
theorem sub_new {a b : Addr × Obj} {cs : List (Addr × Obj)} : ∀ p ∈ b :: cs, p ∈ cs ++ [a, b] := fun p hp => by
  rcases List.mem_cons.mp hp with rfl | hp
  · exact List.mem_append_right _ (.tail _ (.head _))
  · exact List.mem_append_left _ hp
theorem own_head {mt : Nat} {o : Obj} {ex cells : List (Addr × Obj)} (h : OwnOff ((mt, o) :: ex) (cells.map (·.1))) : ∀ p ∈ cells, p.1 ≠ mt := fun p hp e => h _ (.head _) _ (List.mem_map_of_mem hp) e.symm
theorem own_tail {a : Addr × Obj} {mt : Nat} {o : Obj} {ex cells : List (Addr × Obj)} (h : OwnOff (a :: (mt, o) :: ex) (cells.map (·.1))) : ∀ p ∈ cells, p.1 ≠ mt := fun p hp e => h _ (.tail _ (.head _)) _ (List.mem_map_of_mem hp) e.symm

local macro_rules | `(tactic| walk_at "subscriptTail") => `(tactic| (k_here; (with_reducible show wpAny _ _ (subscriptTail _ _ (Value.ref _) (Value.int 1 _)) _ _ _); k_dflt (refine' node_item1 ?k1 ?k2 ?k3 ?_ ?k4; (case k1 => k_asm); (case k2 => k_asm); (case k3 => with_reducible assumption); (case k4 => with_unfolding_all rfl); k_whole)))
local macro_rules | `(tactic| walk_at "subscriptTail") => `(tactic| (k_here; (with_reducible show wpAny _ _ (subscriptTail _ _ (Value.ref _) (Value.int 0 _)) _ _ _); k_dflt (refine' node_item0 ?k1 ?k2 ?k3 ?_ ?k4; (case k1 => k_asm); (case k2 => k_asm); (case k3 => with_reducible assumption); (case k4 => with_unfolding_all rfl); k_whole)))
local macro_rules | `(tactic| walk_at "call builtin:isinstance") => `(tactic| (k_here; (with_reducible show wpAny _ _ (call (Value.builtin "isinstance") [Value.ref _, Value.type "list"]) _ _ _); k_dflt (refine' node_isl ?k1 ?k2 ?k3 ?_; (case k1 => k_asm); (case k2 => k_asm); (case k3 => with_reducible assumption); k_whole)))
local macro_rules | `(tactic| walk_at "callWith ref") => `(tactic| (k_here; k_dflt (refine' callWith_M ?k1 ?k2 ?k3 ?k4 ?_; (case k1 => k_asm); (case k2 => k_asm); (case k3 => k_mem); (case k4 => with_reducible assumption); k_whole)))

example : True := by w_top off; trivial
section
variable {w : World} {mean : ExcName → Option Value} {mg mb : Str → Option Value} {dp un : Nat} {gd : Option (List Code)} {cn : Str} {cs : Scope} {a : Addr} {ccd : Value} {cl : List (Str × Addr)} {outer : List Env} {A₀ : Around} {base h₀ : Heap} {L : Addr} {m : Str → Option Value} {s : Shared} {Q E : Value → Shared → Prop}
variable {x dx : Nat} {wd : Int} {al rv : Bool} {pos acc st : Value} {n1 n2 : Option Value} {S : DS} {cells : List (Addr × Obj)}
theorem parse_bit_in {node node' mt : Nat} {fn : Addr} {v0 v1 : Value} {nn nn' : Nat} {its : Array Value} {b : Int} {bit : Bool} {tbt tps : Tok} {p0 : Int} (C : Cx w mean mg mb cs outer A₀ base h₀ L m s.heap) (hD : DecAt w.params x dx wd al rv (.int p0 tps) (.ref mt) (.ref node) n1 n2 S cells) (N : News h₀ L s.heap ((mt, methodObj (.ref fn) (.ref x)) :: cells)) (hoff : ∀ p ∈ cells, p.1 ≠ mt) (hxd : x ≠ dx)
 (hnode : (hd.heap_39 w.params).lookup node = some (listOf #[v0, v1] nn)) (hb : if bit = true then b ≠ 0 else b = 0)
 (hch : (if bit = true then v1 else v0) = .ref node') (hnode' : (hd.heap_39 w.params).lookup node' = some (listOf its nn'))
 (hdp : dp + 7 < recursionLimit) (hun : un + 80 < cLine)
 (hret : ∀ cells' tps' h' tk', DecAt w.params x dx wd al rv (.int (p0 + 1) tps') (.ref mt) (.ref node') n1 n2 S cells' → Aft s.heap h' (mt :: cells.map (·.1)) ((mt, methodObj (.ref fn) (.ref x)) :: cells') → (∀ p ∈ cells', p.1 ≠ mt) → Q .none { s with heap := h', toks := tk' }) :
 wpAny (model PG w) (ktrTop dp un gd cn cs L a ccd cl outer) (call (.ref 91) [.ref x, .int b tbt]) Q E s := by
  obtain ⟨B, F, X, T, hk⟩ := C
  obtain ⟨c, r, n, nc, nr, k, vc, vr, twd, ty, tcp, tcol, tb, rfl, hxc, hdc, hxr, hdr, hcr, hic, hir⟩ := hD
  have o1 : x ≠ mt := hoff _ (.head _)
  have o2 : dx ≠ mt := hoff _ (.tail _ (.head _))
  have o3 : c ≠ mt := hoff _ (.tail _ (.tail _ (.head _)))
  have o4 : r ≠ mt := hoff _ (.tail _ (.tail _ (.tail _ (.head _))))
  cases bit
  · obtain rfl : v0 = .ref node' := hch
    simp only [Bool.false_eq_true, if_false, if_true] at hb
    cell_step
    intro g' L' h' FG' F' N' B' X' T' G'
    have F1 : Fr g' L' h' (fun y => List.lookup y [(Str.ofString "x", .int b tbt), (Str.ofString "self", Value.ref x)]) := F'
    clear F'
    (try dsimp only)
    (try k_fold)
    ktr_step
    all_goals first | (exfalso; omega) | skip
    all_goals (rename Fr _ _ _ _ => lF)
    all_goals (rename News _ _ _ _ => lN)
    all_goals (try dsimp only)
    refine leaveK_ lF lN fun kF kN => ?_
    show Q .none _
    exact hret _ _ _ _ ⟨c, r, _, nc, nr, _, vc, vr, twd, ty, tcp, tcol, tb, rfl, hxc, hdc, hxr, hdr, hcr, hic, hir⟩ (aft_of N G' lF (news_sub lN (by k_allIn))) (off4L o1 o2 o3 o4)
  · obtain rfl : v1 = .ref node' := hch
    simp only [Bool.false_eq_true, if_false, if_true] at hb
    cell_step
    intro g' L' h' FG' F' N' B' X' T' G'
    have F1 : Fr g' L' h' (fun y => List.lookup y [(Str.ofString "x", .int b tbt), (Str.ofString "self", Value.ref x)]) := F'
    clear F'
    (try dsimp only)
    (try k_fold)
    ktr_step
    all_goals first | (exfalso; omega) | skip
    all_goals (rename Fr _ _ _ _ => lF)
    all_goals (rename News _ _ _ _ => lN)
    all_goals (try dsimp only)
    refine leaveK_ lF lN fun kF kN => ?_
    show Q .none _
    exact hret _ _ _ _ ⟨c, r, _, nc, nr, _, vc, vr, twd, ty, tcp, tcol, tb, rfl, hxc, hdc, hxr, hdr, hcr, hic, hir⟩ (aft_of N G' lF (news_sub lN (by k_allIn))) (off4L o1 o2 o3 o4)
end

local macro_rules | `(tactic| walk_at "getMethod ref") => `(tactic| ((with_reducible show wpAny _ _ (getMethod (Value.ref _) (Str.ofString "_accept") _) _ _ _); walk_at "last getMethod ref"))

example : True := by w_top off; trivial
section
variable {w : World} {mean : ExcName → Option Value} {mg mb : Str → Option Value} {dp un : Nat} {gd : Option (List Code)} {cn : Str} {cs : Scope} {a : Addr} {ccd : Value} {cl : List (Str × Addr)} {outer : List Env} {A₀ : Around} {base h₀ : Heap} {L : Addr} {m : Str → Option Value} {s : Shared} {Q E : Value → Shared → Prop}
variable {x dx : Nat} {wd : Int} {al rv : Bool} {pos acc st : Value} {n1 n2 : Option Value} {S : DS} {cells : List (Addr × Obj)}
theorem parse_bit_leaf_i {node mt : Nat} {fn : Addr} {v0 v1 : Value} {nn : Nat} {b : Int} {bit : Bool} {tbt tps : Tok} {p0 : Int} {Post : Value → Value → Option Value → Option Value → DS → List (Addr × Obj) → Prop} {PostX : Addr → Value → Option Value → Option Value → DS → Prop} {iv : Int} {tv : Tok} (C : Cx w mean mg mb cs outer A₀ base h₀ L m s.heap) (hD : DecAt w.params x dx wd al rv (.int p0 tps) (.ref mt) (.ref node) n1 n2 S cells) (N : News h₀ L s.heap ((mt, methodObj (.ref fn) (.ref x)) :: cells)) (hoff : ∀ p ∈ cells, p.1 ≠ mt) (hxd : x ≠ dx)
 (hnode : (hd.heap_39 w.params).lookup node = some (listOf #[v0, v1] nn)) (hb : if bit = true then b ≠ 0 else b = 0)
 (hch : (if bit = true then v1 else v0) = .int iv tv)
 (hfn : fnIn (hd.heap_39 w.params) fn = true)
 (hacc : ∀ tps', AccTells w mean mg mb x fn (.int iv tv) (DecAt w.params x dx wd al rv (.int (p0 + 1) tps') (.ref mt) (.ref node) n1 n2 S)
   (fun v' cells' ex => ∃ acc' n1' n2' S', Post v' acc' n1' n2' S' ex ∧ DecAt w.params x dx wd al rv (.int (p0 + 1) tps') acc' (.ref node) n1' n2' S' cells')
   (fun C cells' => ∃ acc' n1' n2' S', PostX C acc' n1' n2' S' ∧ DecAt w.params x dx wd al rv (.int (p0 + 1) tps') acc' (.ref node) n1' n2' S' cells'))
 (hret : ∀ v' acc' n1' n2' S' ex cells' tps' h' tk', Post v' acc' n1' n2' S' ex → DecAt w.params x dx wd al rv (.int (p0 + 1) tps') acc' v' n1' n2' S' cells' → OwnOff ((mt, methodObj (.ref fn) (.ref x)) :: ex) (cells'.map (·.1)) → Aft s.heap h' (mt :: cells.map (·.1)) (cells' ++ (mt, methodObj (.ref fn) (.ref x)) :: ex) → Q .none { s with heap := h', toks := tk' })
 (hexc : ∀ C acc' n1' n2' S' cells' tps' e h' tk', PostX C acc' n1' n2' S' → DecAt w.params x dx wd al rv (.int (p0 + 1) tps') acc' (.ref node) n1' n2' S' cells' → Thrown base h₀ L m s.heap (mt :: cells.map (·.1)) (envX cn cs L a ccd cl :: outer) C cells' e h' → E (.ref e) { s with heap := h', toks := tk' })
 (hdp : dp + 7 < recursionLimit) (hun : un + 80 < cLine) :
 wpAny (model PG w) (ktrTop dp un gd cn cs L a ccd cl outer) (call (.ref 91) [.ref x, .int b tbt]) Q E s := by
  refine wait fun cW hW => ?_
  obtain ⟨B, F, X, T, hk⟩ := C
  refine hW ?_
  clear hW cW
  refine wait fun cW hW => ?_
  obtain ⟨c, r, n, nc, nr, k, vc, vr, twd, ty, tcp, tcol, tb, rfl, hxc, hdc, hxr, hdr, hcr, hic, hir⟩ := hD
  refine hW ?_
  clear hW cW
  have o1 : x ≠ mt := hoff _ (.head _)
  have o2 : dx ≠ mt := hoff _ (.tail _ (.head _))
  have o3 : c ≠ mt := hoff _ (.tail _ (.tail _ (.head _)))
  have o4 : r ≠ mt := hoff _ (.tail _ (.tail _ (.tail _ (.head _))))
  cases bit
  · obtain rfl : v0 = .int iv tv := hch
    simp only [Bool.false_eq_true, if_false, if_true] at hb
    cell_step
    intro g' L' h' FG' F' N' B' X' T' G'
    have F1 : Fr g' L' h' (fun y => List.lookup y [(Str.ofString "x", .int b tbt), (Str.ofString "self", Value.ref x)]) := F'
    clear F'
    (try dsimp only)
    (try k_fold)
    ktr_step
    all_goals first | (exfalso; omega) | skip
    (rename Fr _ _ _ _ => lF)
    (rename News _ _ _ _ => lN)
    refine call_meth lN (.head _) ?_
    have N4 := news_sub (new := [(x, _), (dx, _), (c, _), (r, _)]) lN (fun _ hp => List.mem_cons_of_mem _ hp)
    refine hacc _ (dp + 1) (un + 3) _ _ _ _ _ _ _ _ _ _ _ _ _ _ _ _ ⟨B', lF, X', T', rfl⟩ ⟨c, r, _, nc, nr, _, vc, vr, twd, ty, tcp, tcol, tb, rfl, hxc, hdc, hxr, hdr, hcr, hic, hir⟩ N4 (by omega) (by omega) ?_ ?_
    · intro v' cells2 ex h2 tk2 hZ5 hof D
      refine wait fun cW hW => ?_
      obtain ⟨acc', n1', n2', S', hP, hD2⟩ := hZ5
      refine hW ?_
      clear hW cW
      have F2 := fr_aft lF N4 (fun _ h => h) D
      refine wait fun cW hW => ?_
      obtain ⟨c2, r2, n2', nc2, nr2, k2, vc2, vr2, twd2, ty2, tcp2, tcol2, tb2, rfl, hxc2, hdc2, hxr2, hdr2, hcr2, hic2, hir2⟩ := hD2
      refine hW ?_
      clear hW cW
      have Nr := news_rest (rest := [(mt, methodObj (.ref fn) (.ref x))]) (news_sub lN (fun p hp => List.mem_singleton.mp hp ▸ .head _)) (off_map (off4L o1 o2 o3 o4)) D
      have hmt := new_off (rest := [(mt, methodObj (.ref fn) (.ref x))]) (news_sub lN (fun p hp => List.mem_singleton.mp hp ▸ .head _)) (off_map (off4L o1 o2 o3 o4)) D
      have N2 := newsB (newsApp (news_aft lF N4 (fun _ h => h) D) Nr)
      have hoff2 := own_off (o := methodObj (.ref fn) (.ref x)) hof (fun p hp => hmt p hp _ (.head _))
      generalize hown : ((mt, methodObj (.ref fn) (.ref x)) :: ex) = own at N2 hoff2
      clear lF lN N4 Nr
      (try dsimp only)
      ktr_step
      (rename Fr _ _ _ _ => lF)
      (rename News _ _ _ _ => lN)
      refine leaveK_ lF lN fun kF kN => ?_
      show Q .none _
      subst hown
      exact hret _ _ _ _ _ _ _ _ _ _ hP ⟨c2, r2, n2', nc2, nr2, k2, vc2, vr2, twd2, ty2, tcp2, tcol2, tb2, rfl, hxc2, hdc2, hxr2, hdr2, hcr2, hic2, hir2⟩ hoff2 (aft_of N G' lF lN)
    · intro C cells2 e h2 tk2 hZ5 T2
      refine wait fun cW hW => ?_
      obtain ⟨acc', n1', n2', S', hP, hD2⟩ := hZ5
      refine hW ?_
      clear hW cW
      (try dsimp only)
      refine thrown_on B' T2 FG' G' fun h5 T5 => ?_
      exact hexc _ _ _ _ _ _ _ _ _ _ hP hD2 T5
  · obtain rfl : v1 = .int iv tv := hch
    simp only [Bool.false_eq_true, if_false, if_true] at hb
    cell_step
    intro g' L' h' FG' F' N' B' X' T' G'
    have F1 : Fr g' L' h' (fun y => List.lookup y [(Str.ofString "x", .int b tbt), (Str.ofString "self", Value.ref x)]) := F'
    clear F'
    (try dsimp only)
    (try k_fold)
    ktr_step
    all_goals first | (exfalso; omega) | skip
    (rename Fr _ _ _ _ => lF)
    (rename News _ _ _ _ => lN)
    refine call_meth lN (.head _) ?_
    have N4 := news_sub (new := [(x, _), (dx, _), (c, _), (r, _)]) lN (fun _ hp => List.mem_cons_of_mem _ hp)
    refine hacc _ (dp + 1) (un + 3) _ _ _ _ _ _ _ _ _ _ _ _ _ _ _ _ ⟨B', lF, X', T', rfl⟩ ⟨c, r, _, nc, nr, _, vc, vr, twd, ty, tcp, tcol, tb, rfl, hxc, hdc, hxr, hdr, hcr, hic, hir⟩ N4 (by omega) (by omega) ?_ ?_
    · intro v' cells2 ex h2 tk2 hZ5 hof D
      refine wait fun cW hW => ?_
      obtain ⟨acc', n1', n2', S', hP, hD2⟩ := hZ5
      refine hW ?_
      clear hW cW
      have F2 := fr_aft lF N4 (fun _ h => h) D
      refine wait fun cW hW => ?_
      obtain ⟨c2, r2, n2', nc2, nr2, k2, vc2, vr2, twd2, ty2, tcp2, tcol2, tb2, rfl, hxc2, hdc2, hxr2, hdr2, hcr2, hic2, hir2⟩ := hD2
      refine hW ?_
      clear hW cW
      have Nr := news_rest (rest := [(mt, methodObj (.ref fn) (.ref x))]) (news_sub lN (fun p hp => List.mem_singleton.mp hp ▸ .head _)) (off_map (off4L o1 o2 o3 o4)) D
      have hmt := new_off (rest := [(mt, methodObj (.ref fn) (.ref x))]) (news_sub lN (fun p hp => List.mem_singleton.mp hp ▸ .head _)) (off_map (off4L o1 o2 o3 o4)) D
      have N2 := newsB (newsApp (news_aft lF N4 (fun _ h => h) D) Nr)
      have hoff2 := own_off (o := methodObj (.ref fn) (.ref x)) hof (fun p hp => hmt p hp _ (.head _))
      generalize hown : ((mt, methodObj (.ref fn) (.ref x)) :: ex) = own at N2 hoff2
      clear lF lN N4 Nr
      (try dsimp only)
      ktr_step
      (rename Fr _ _ _ _ => lF)
      (rename News _ _ _ _ => lN)
      refine leaveK_ lF lN fun kF kN => ?_
      show Q .none _
      subst hown
      exact hret _ _ _ _ _ _ _ _ _ _ hP ⟨c2, r2, n2', nc2, nr2, k2, vc2, vr2, twd2, ty2, tcp2, tcol2, tb2, rfl, hxc2, hdc2, hxr2, hdr2, hcr2, hic2, hir2⟩ hoff2 (aft_of N G' lF lN)
    · intro C cells2 e h2 tk2 hZ5 T2
      refine wait fun cW hW => ?_
      obtain ⟨acc', n1', n2', S', hP, hD2⟩ := hZ5
      refine hW ?_
      clear hW cW
      (try dsimp only)
      refine thrown_on B' T2 FG' G' fun h5 T5 => ?_
      exact hexc _ _ _ _ _ _ _ _ _ _ hP hD2 T5
theorem parse_bit_leaf_s {node mt : Nat} {fn : Addr} {v0 v1 : Value} {nn : Nat} {b : Int} {bit : Bool} {tbt tps : Tok} {p0 : Int} {Post : Value → Value → Option Value → Option Value → DS → List (Addr × Obj) → Prop} {PostX : Addr → Value → Option Value → Option Value → DS → Prop} {sv : Str} {tv : Tok} (C : Cx w mean mg mb cs outer A₀ base h₀ L m s.heap) (hD : DecAt w.params x dx wd al rv (.int p0 tps) (.ref mt) (.ref node) n1 n2 S cells) (N : News h₀ L s.heap ((mt, methodObj (.ref fn) (.ref x)) :: cells)) (hoff : ∀ p ∈ cells, p.1 ≠ mt) (hxd : x ≠ dx)
 (hnode : (hd.heap_39 w.params).lookup node = some (listOf #[v0, v1] nn)) (hb : if bit = true then b ≠ 0 else b = 0)
 (hch : (if bit = true then v1 else v0) = .str sv tv)
 (hfn : fnIn (hd.heap_39 w.params) fn = true)
 (hacc : ∀ tps', AccTells w mean mg mb x fn (.str sv tv) (DecAt w.params x dx wd al rv (.int (p0 + 1) tps') (.ref mt) (.ref node) n1 n2 S)
   (fun v' cells' ex => ∃ acc' n1' n2' S', Post v' acc' n1' n2' S' ex ∧ DecAt w.params x dx wd al rv (.int (p0 + 1) tps') acc' (.ref node) n1' n2' S' cells')
   (fun C cells' => ∃ acc' n1' n2' S', PostX C acc' n1' n2' S' ∧ DecAt w.params x dx wd al rv (.int (p0 + 1) tps') acc' (.ref node) n1' n2' S' cells'))
 (hret : ∀ v' acc' n1' n2' S' ex cells' tps' h' tk', Post v' acc' n1' n2' S' ex → DecAt w.params x dx wd al rv (.int (p0 + 1) tps') acc' v' n1' n2' S' cells' → OwnOff ((mt, methodObj (.ref fn) (.ref x)) :: ex) (cells'.map (·.1)) → Aft s.heap h' (mt :: cells.map (·.1)) (cells' ++ (mt, methodObj (.ref fn) (.ref x)) :: ex) → Q .none { s with heap := h', toks := tk' })
 (hexc : ∀ C acc' n1' n2' S' cells' tps' e h' tk', PostX C acc' n1' n2' S' → DecAt w.params x dx wd al rv (.int (p0 + 1) tps') acc' (.ref node) n1' n2' S' cells' → Thrown base h₀ L m s.heap (mt :: cells.map (·.1)) (envX cn cs L a ccd cl :: outer) C cells' e h' → E (.ref e) { s with heap := h', toks := tk' })
 (hdp : dp + 7 < recursionLimit) (hun : un + 80 < cLine) :
 wpAny (model PG w) (ktrTop dp un gd cn cs L a ccd cl outer) (call (.ref 91) [.ref x, .int b tbt]) Q E s := by
  refine wait fun cW hW => ?_
  obtain ⟨B, F, X, T, hk⟩ := C
  refine hW ?_
  clear hW cW
  refine wait fun cW hW => ?_
  obtain ⟨c, r, n, nc, nr, k, vc, vr, twd, ty, tcp, tcol, tb, rfl, hxc, hdc, hxr, hdr, hcr, hic, hir⟩ := hD
  refine hW ?_
  clear hW cW
  have o1 : x ≠ mt := hoff _ (.head _)
  have o2 : dx ≠ mt := hoff _ (.tail _ (.head _))
  have o3 : c ≠ mt := hoff _ (.tail _ (.tail _ (.head _)))
  have o4 : r ≠ mt := hoff _ (.tail _ (.tail _ (.tail _ (.head _))))
  cases bit
  · obtain rfl : v0 = .str sv tv := hch
    simp only [Bool.false_eq_true, if_false, if_true] at hb
    cell_step
    intro g' L' h' FG' F' N' B' X' T' G'
    have F1 : Fr g' L' h' (fun y => List.lookup y [(Str.ofString "x", .int b tbt), (Str.ofString "self", Value.ref x)]) := F'
    clear F'
    (try dsimp only)
    (try k_fold)
    ktr_step
    all_goals first | (exfalso; omega) | skip
    (rename Fr _ _ _ _ => lF)
    (rename News _ _ _ _ => lN)
    refine call_meth lN (.head _) ?_
    have N4 := news_sub (new := [(x, _), (dx, _), (c, _), (r, _)]) lN (fun _ hp => List.mem_cons_of_mem _ hp)
    refine hacc _ (dp + 1) (un + 3) _ _ _ _ _ _ _ _ _ _ _ _ _ _ _ _ ⟨B', lF, X', T', rfl⟩ ⟨c, r, _, nc, nr, _, vc, vr, twd, ty, tcp, tcol, tb, rfl, hxc, hdc, hxr, hdr, hcr, hic, hir⟩ N4 (by omega) (by omega) ?_ ?_
    · intro v' cells2 ex h2 tk2 hZ5 hof D
      refine wait fun cW hW => ?_
      obtain ⟨acc', n1', n2', S', hP, hD2⟩ := hZ5
      refine hW ?_
      clear hW cW
      have F2 := fr_aft lF N4 (fun _ h => h) D
      refine wait fun cW hW => ?_
      obtain ⟨c2, r2, n2', nc2, nr2, k2, vc2, vr2, twd2, ty2, tcp2, tcol2, tb2, rfl, hxc2, hdc2, hxr2, hdr2, hcr2, hic2, hir2⟩ := hD2
      refine hW ?_
      clear hW cW
      have Nr := news_rest (rest := [(mt, methodObj (.ref fn) (.ref x))]) (news_sub lN (fun p hp => List.mem_singleton.mp hp ▸ .head _)) (off_map (off4L o1 o2 o3 o4)) D
      have hmt := new_off (rest := [(mt, methodObj (.ref fn) (.ref x))]) (news_sub lN (fun p hp => List.mem_singleton.mp hp ▸ .head _)) (off_map (off4L o1 o2 o3 o4)) D
      have N2 := newsB (newsApp (news_aft lF N4 (fun _ h => h) D) Nr)
      have hoff2 := own_off (o := methodObj (.ref fn) (.ref x)) hof (fun p hp => hmt p hp _ (.head _))
      generalize hown : ((mt, methodObj (.ref fn) (.ref x)) :: ex) = own at N2 hoff2
      clear lF lN N4 Nr
      (try dsimp only)
      ktr_step
      (rename Fr _ _ _ _ => lF)
      (rename News _ _ _ _ => lN)
      refine leaveK_ lF lN fun kF kN => ?_
      show Q .none _
      subst hown
      exact hret _ _ _ _ _ _ _ _ _ _ hP ⟨c2, r2, n2', nc2, nr2, k2, vc2, vr2, twd2, ty2, tcp2, tcol2, tb2, rfl, hxc2, hdc2, hxr2, hdr2, hcr2, hic2, hir2⟩ hoff2 (aft_of N G' lF lN)
    · intro C cells2 e h2 tk2 hZ5 T2
      refine wait fun cW hW => ?_
      obtain ⟨acc', n1', n2', S', hP, hD2⟩ := hZ5
      refine hW ?_
      clear hW cW
      (try dsimp only)
      refine thrown_on B' T2 FG' G' fun h5 T5 => ?_
      exact hexc _ _ _ _ _ _ _ _ _ _ hP hD2 T5
  · obtain rfl : v1 = .str sv tv := hch
    simp only [Bool.false_eq_true, if_false, if_true] at hb
    cell_step
    intro g' L' h' FG' F' N' B' X' T' G'
    have F1 : Fr g' L' h' (fun y => List.lookup y [(Str.ofString "x", .int b tbt), (Str.ofString "self", Value.ref x)]) := F'
    clear F'
    (try dsimp only)
    (try k_fold)
    ktr_step
    all_goals first | (exfalso; omega) | skip
    (rename Fr _ _ _ _ => lF)
    (rename News _ _ _ _ => lN)
    refine call_meth lN (.head _) ?_
    have N4 := news_sub (new := [(x, _), (dx, _), (c, _), (r, _)]) lN (fun _ hp => List.mem_cons_of_mem _ hp)
    refine hacc _ (dp + 1) (un + 3) _ _ _ _ _ _ _ _ _ _ _ _ _ _ _ _ ⟨B', lF, X', T', rfl⟩ ⟨c, r, _, nc, nr, _, vc, vr, twd, ty, tcp, tcol, tb, rfl, hxc, hdc, hxr, hdr, hcr, hic, hir⟩ N4 (by omega) (by omega) ?_ ?_
    · intro v' cells2 ex h2 tk2 hZ5 hof D
      refine wait fun cW hW => ?_
      obtain ⟨acc', n1', n2', S', hP, hD2⟩ := hZ5
      refine hW ?_
      clear hW cW
      have F2 := fr_aft lF N4 (fun _ h => h) D
      refine wait fun cW hW => ?_
      obtain ⟨c2, r2, n2', nc2, nr2, k2, vc2, vr2, twd2, ty2, tcp2, tcol2, tb2, rfl, hxc2, hdc2, hxr2, hdr2, hcr2, hic2, hir2⟩ := hD2
      refine hW ?_
      clear hW cW
      have Nr := news_rest (rest := [(mt, methodObj (.ref fn) (.ref x))]) (news_sub lN (fun p hp => List.mem_singleton.mp hp ▸ .head _)) (off_map (off4L o1 o2 o3 o4)) D
      have hmt := new_off (rest := [(mt, methodObj (.ref fn) (.ref x))]) (news_sub lN (fun p hp => List.mem_singleton.mp hp ▸ .head _)) (off_map (off4L o1 o2 o3 o4)) D
      have N2 := newsB (newsApp (news_aft lF N4 (fun _ h => h) D) Nr)
      have hoff2 := own_off (o := methodObj (.ref fn) (.ref x)) hof (fun p hp => hmt p hp _ (.head _))
      generalize hown : ((mt, methodObj (.ref fn) (.ref x)) :: ex) = own at N2 hoff2
      clear lF lN N4 Nr
      (try dsimp only)
      ktr_step
      (rename Fr _ _ _ _ => lF)
      (rename News _ _ _ _ => lN)
      refine leaveK_ lF lN fun kF kN => ?_
      show Q .none _
      subst hown
      exact hret _ _ _ _ _ _ _ _ _ _ hP ⟨c2, r2, n2', nc2, nr2, k2, vc2, vr2, twd2, ty2, tcp2, tcol2, tb2, rfl, hxc2, hdc2, hxr2, hdr2, hcr2, hic2, hir2⟩ hoff2 (aft_of N G' lF lN)
    · intro C cells2 e h2 tk2 hZ5 T2
      refine wait fun cW hW => ?_
      obtain ⟨acc', n1', n2', S', hP, hD2⟩ := hZ5
      refine hW ?_
      clear hW cW
      (try dsimp only)
      refine thrown_on B' T2 FG' G' fun h5 T5 => ?_
      exact hexc _ _ _ _ _ _ _ _ _ _ hP hD2 T5
end

example : True := by w_top off; trivial
/-- the decoder's trees of codes -/
inductive Tr where
  | num (i : Int)
  | word (s : Str)
  | non
  | node (l r : Tr)
def readT (K : Frag) : Nat → Value → Option Tr
  | 0, _ => none
  | f + 1, v => match v with
    | .int i _ => some (.num i)
    | .str s _ => some (.word s)
    | .none => some .non
    | .ref a => match K.lookup a with
      | some ⟨.type "list", none, .seq ⟨[v0, v1]⟩ _, ⟨[]⟩⟩ => match readT K f v0, readT K f v1 with
        | some l, some r => some (.node l r)
        | _, _ => none
      | _ => none
    | _ => none
theorem readT_node {K : Frag} {f : Nat} {v : Value} {l r : Tr} (h : readT K f v = some (.node l r)) : ∃ a v0 v1 nn f', v = .ref a ∧ K.lookup a = some (listOf #[v0, v1] nn) ∧ readT K f' v0 = some l ∧ readT K f' v1 = some r := by
  cases f with
  | zero => cases h
  | succ f =>
    unfold readT at h
    split at h
    · cases h
    · cases h
    · cases h
    · split at h
      · rename_i e
        split at h
        · rename_i h0 h1
          cases h
          exact ⟨_, _, _, _, f, rfl, e, h0, h1⟩
        · cases h
      · cases h
    · cases h
theorem readT_num {K : Frag} {f : Nat} {v : Value} {i : Int} (h : readT K f v = some (.num i)) : ∃ t, v = .int i t := by
  cases f with
  | zero => cases h
  | succ f =>
    unfold readT at h
    split at h
    · cases h; exact ⟨_, rfl⟩
    · cases h
    · cases h
    · split at h
      · split at h <;> cases h
      · cases h
    · cases h
theorem readT_word {K : Frag} {f : Nat} {v : Value} {s : Str} (h : readT K f v = some (.word s)) : ∃ t, v = .str s t := by
  cases f with
  | zero => cases h
  | succ f =>
    unfold readT at h
    split at h
    · cases h
    · cases h; exact ⟨_, rfl⟩
    · cases h
    · split at h
      · split at h <;> cases h
      · cases h
    · cases h
def Tr.kid : Tr → Bool → Option Tr
  | .node l r, b => some (if b then r else l)
  | _, _ => none
def Tr.isNode : Tr → Bool
  | .node _ _ => true
  | _ => false
noncomputable def modeT (P : Params) : Tr := (readT (hd.heap_39 P) 40 (.ref 139)).getD .non
noncomputable def runT (P : Params) (col : Int) : Tr := if col ≠ 0 then (readT (hd.heap_39 P) 40 (.ref 243)).getD .non else (readT (hd.heap_39 P) 40 (.ref 347)).getD .non
theorem read_mode (P : Params) : readT (hd.heap_39 P) 40 (.ref 139) = some (modeT P) := by
  have h : (readT (hd.heap_39 P) 40 (.ref 139)).isSome = true := by kernel_rfl
  obtain ⟨t, e⟩ := Option.isSome_iff_exists.mp h
  rw [modeT, e]; rfl
theorem read_run (P : Params) (col : Int) : readT (hd.heap_39 P) 40 (runTree col) = some (runT P col) := by
  unfold runTree runT
  by_cases hc : col ≠ 0
  · rw [if_pos hc, if_pos hc]
    have h : (readT (hd.heap_39 P) 40 (.ref 243)).isSome = true := by kernel_rfl
    obtain ⟨t, e⟩ := Option.isSome_iff_exists.mp h
    rw [e]; rfl
  · rw [if_neg hc, if_neg hc]
    have h : (readT (hd.heap_39 P) 40 (.ref 347)).isSome = true := by kernel_rfl
    obtain ⟨t, e⟩ := Option.isSome_iff_exists.mp h
    rw [e]; rfl
/-- the path of a code through a tree -/
def Tr.path : Tr → List Bool → Option Tr
  | t, [] => some t
  | .node l r, b :: bs => (if b then r else l).path bs
  | _, _ :: _ => none
inductive Kd where
  | md
  | h1
  | h2
def Kd.fn : Kd → Nat
  | .md => 431
  | .h1 => 438
  | .h2 => 445
structure MS where
  k : Kd
  T : Tr
  S : DS
  n1 : Option Int
  n2 : Option Int
inductive Res where
  | go (M : MS)
  | skip (M : MS)
  | eof (M : MS)
/-- what comes of a row's flush -/
def FlR (P : Params) (wd : Int) (al rv : Bool) (S1 : DS) (n1 n2 : Option Int) (res : Res) : Prop :=
  ((wd ≤ S1.cp → al = false) ∧ res = .go ⟨.md, modeT P, fin wd rv S1, n1, n2⟩) ∨ (wd ≤ S1.cp ∧ al = true ∧ res = .skip ⟨.md, modeT P, fin wd rv S1, n1, n2⟩)
def DS.turn (S : DS) : DS := { S with col := 1 - S.col }
/-- one bit -/
def StepR (P : Params) (wd : Int) (al rv : Bool) (M : MS) (b : Bool) (res : Res) : Prop :=
  match M.T.kid b with
  | some (.node l r) => res = .go { M with T := .node l r }
  | some (.num i) => match M.k with
    | .md => ∃ S1, VertS wd i M.S S1 ∧ FlR P wd al rv S1 M.n1 M.n2 res
    | .h1 => res = .go ⟨.h2, runT P (1 - M.S.col), M.S.turn, some (M.n1.getD 0 + i), some 0⟩
    | .h2 => FlR P wd al rv (HorS wd (M.n1.getD 0) (M.n2.getD 0 + i) M.S.turn) M.n1 (some (M.n2.getD 0 + i)) res
  | some (.word s) =>
    if s = Str.ofString "p" then ∃ S1, PassS wd M.S S1 ∧ FlR P wd al rv S1 M.n1 M.n2 res
    else if s = Str.ofString "h" then res = .go ⟨.h1, runT P M.S.col, M.S, some 0, M.n2⟩
    else res = .eof M
  | _ => False
/-- the decoder may be handed the bit -/
def Fit (wd : Int) (M : MS) (b : Bool) : Prop :=
  match M.T.kid b with
  | some (.node _ _) => True
  | some (.num i) => match M.k with
    | .md => Ok wd M.S ∧ M.S.buf.size ≤ 1000000 ∧ -3 ≤ i ∧ i ≤ 3
    | .h1 => (∃ j, M.n1 = some j) ∧ i < 64 ∧ (M.S.col = 0 ∨ M.S.col = 1)
    | .h2 => Ok wd M.S.turn ∧ M.S.buf.size ≤ 1000000 ∧ i < 64 ∧ ∃ j1 j2, M.n1 = some j1 ∧ M.n2 = some j2 ∧ 0 ≤ j1 ∧ j1 ≤ 3000 ∧ 0 ≤ j2 + i ∧ j2 + i ≤ 3000
  | some (.word s) => M.k = .md ∧
    ((s = Str.ofString "p" ∧ Ok wd M.S ∧ M.S.buf.size ≤ 1000000) ∨ (s = Str.ofString "h" ∧ (M.S.col = 0 ∨ M.S.col = 1) ∧ (M.n1 = none → M.n2 = none)) ∨ s = Str.ofString "e")
  | _ => False
/-- a number that an instance keeps, or not yet -/
def OptV : Option Value → Option Int → Prop
  | none, none => True
  | some (.int i _), some j => i = j
  | _, _ => False
/-- the decoder with its state -/
inductive MSAt (P : Params) (x dx : Nat) (wd : Int) (al rv : Bool) (mt : Nat) (M : MS) (cells : List (Addr × Obj)) : Prop where
  | intro : ∀ p0 tps st n1 n2 f, DecAt P x dx wd al rv (.int p0 tps) (.ref mt) st n1 n2 M.S cells → readT (hd.heap_39 P) f st = some M.T → OptV n1 M.n1 → OptV n2 M.n2 → (∀ p ∈ cells, p.1 ≠ mt) → MSAt P x dx wd al rv mt M cells
theorem optV_none {v : Option Value} {n : Option Int} (h : OptV v n) : v = none ↔ n = none := by
  cases v with
  | none => cases n with
    | none => exact ⟨fun _ => rfl, fun _ => rfl⟩
    | some j => exact h.elim
  | some a => cases n with
    | none => cases a <;> exact h.elim
    | some j => exact ⟨fun q => (nomatch q), fun q => (nomatch q)⟩
theorem optV_some {v : Option Value} {j : Int} (h : OptV v (some j)) : ∃ t, v = some (.int j t) := by
  cases v with
  | none => exact h.elim
  | some a => cases a <;> first | exact h.elim | (cases h; exact ⟨_, rfl⟩)

example : True := by w_top off; trivial
section
variable {w : World} {mean : ExcName → Option Value} {mg mb : Str → Option Value} {dp un : Nat} {gd : Option (List Code)} {cn : Str} {cs : Scope} {a : Addr} {ccd : Value} {cl : List (Str × Addr)} {outer : List Env} {A₀ : Around} {base h₀ : Heap} {L : Addr} {m : Str → Option Value} {s : Shared} {Q E : Value → Shared → Prop}
variable {x dx : Nat} {wd : Int} {al rv : Bool} {pos acc st : Value} {n1 n2 : Option Value} {S : DS}
theorem acc_p {tm : Tok} (hxd : x ≠ dx) (W : Ok wd S) (hbb : S.buf.size ≤ 1000000) : AccTells w mean mg mb x 431 (.str (Str.ofString "p") tm) (DecAt w.params x dx wd al rv pos acc st n1 n2 S)
  (fun v' cells' ex => ∃ acc' n1' n2' S', (fun v' acc' n1' n2' S' ex => v' = .ref 139 ∧ acc' = acc ∧ n1' = n1 ∧ n2' = n2 ∧ ex = ([] : List (Addr × Obj)) ∧ ∃ S1, PassS wd S S1 ∧ (wd ≤ S1.cp → al = false) ∧ S' = fin wd rv S1) v' acc' n1' n2' S' ex ∧ DecAt w.params x dx wd al rv pos acc' st n1' n2' S' cells')
  (fun C cells' => ∃ acc' n1' n2' S', (fun C acc' n1' n2' S' => C = 407 ∧ n1' = n1 ∧ n2' = n2 ∧ ∃ S1, PassS wd S S1 ∧ wd ≤ S1.cp ∧ al = true ∧ S' = fin wd rv S1) C acc' n1' n2' S' ∧ DecAt w.params x dx wd al rv pos acc' st n1' n2' S' cells') := by
  intro dp un gd cn cs a ccd cl outer A₀ base h₀ L m s Q E cells C hI N hdp hun hret hexc
  refine parse_mode_p C hI N hxd W hbb hdp hun ?_ ?_
  · intro S1 cells' h' tk' hP hal hD D
    exact hret _ cells' [] _ _ ⟨acc, n1, n2, _, ⟨rfl, rfl, rfl, rfl, rfl, S1, hP, hal, rfl⟩, hD⟩ (fun _ hp => nomatch hp) D
  · intro S1 cells' e h' tk' hP hle hal hD T
    exact hexc _ cells' _ _ _ ⟨acc, n1, n2, _, ⟨rfl, rfl, rfl, S1, hP, hle, hal, rfl⟩, hD⟩ T
theorem acc_v {d : Int} {tm : Tok} (hxd : x ≠ dx) (W : Ok wd S) (hbb : S.buf.size ≤ 1000000) (hd1 : -3 ≤ d) (hd2 : d ≤ 3) : AccTells w mean mg mb x 431 (.int d tm) (DecAt w.params x dx wd al rv pos acc st n1 n2 S)
  (fun v' cells' ex => ∃ acc' n1' n2' S', (fun v' acc' n1' n2' S' ex => v' = .ref 139 ∧ acc' = acc ∧ n1' = n1 ∧ n2' = n2 ∧ ex = ([] : List (Addr × Obj)) ∧ ∃ S1, VertS wd d S S1 ∧ (wd ≤ S1.cp → al = false) ∧ S' = fin wd rv S1) v' acc' n1' n2' S' ex ∧ DecAt w.params x dx wd al rv pos acc' st n1' n2' S' cells')
  (fun C cells' => ∃ acc' n1' n2' S', (fun C acc' n1' n2' S' => C = 407 ∧ n1' = n1 ∧ n2' = n2 ∧ ∃ S1, VertS wd d S S1 ∧ wd ≤ S1.cp ∧ al = true ∧ S' = fin wd rv S1) C acc' n1' n2' S' ∧ DecAt w.params x dx wd al rv pos acc' st n1' n2' S' cells') := by
  intro dp un gd cn cs a ccd cl outer A₀ base h₀ L m s Q E cells C hI N hdp hun hret hexc
  refine parse_mode_v C hI N hxd W hbb hd1 hd2 hdp hun ?_ ?_
  · intro S1 cells' h' tk' hP hal hD D
    exact hret _ cells' [] _ _ ⟨acc, n1, n2, _, ⟨rfl, rfl, rfl, rfl, rfl, S1, hP, hal, rfl⟩, hD⟩ (fun _ hp => nomatch hp) D
  · intro S1 cells' e h' tk' hP hle hal hD T
    exact hexc _ cells' _ _ _ ⟨acc, n1, n2, _, ⟨rfl, rfl, rfl, S1, hP, hle, hal, rfl⟩, hD⟩ T
theorem acc_e {tm : Tok} (hxd : x ≠ dx) : AccTells w mean mg mb x 431 (.str (Str.ofString "e") tm) (DecAt w.params x dx wd al rv pos acc st n1 n2 S)
  (fun v' cells' ex => ∃ acc' n1' n2' S', (fun _ _ _ _ _ _ => False) v' acc' n1' n2' S' ex ∧ DecAt w.params x dx wd al rv pos acc' st n1' n2' S' cells')
  (fun C cells' => ∃ acc' n1' n2' S', (fun C acc' n1' n2' S' => C = 383 ∧ n1' = n1 ∧ n2' = n2 ∧ S' = S) C acc' n1' n2' S' ∧ DecAt w.params x dx wd al rv pos acc' st n1' n2' S' cells') := by
  intro dp un gd cn cs a ccd cl outer A₀ base h₀ L m s Q E cells C hI N hdp hun hret hexc
  refine parse_mode_e C hI N hxd hdp hun ?_
  intro cells' e h' tk' hD T
  exact hexc _ cells' _ _ _ ⟨acc, n1, n2, _, ⟨rfl, rfl, rfl, rfl⟩, hD⟩ T
theorem acc_h {tm : Tok} (hxd : x ≠ dx) (hcol : S.col = 0 ∨ S.col = 1) (hnn : n1 = none → n2 = none) : AccTells w mean mg mb x 431 (.str (Str.ofString "h") tm) (DecAt w.params x dx wd al rv pos acc st n1 n2 S)
  (fun v' cells' ex => ∃ acc' n1' n2' S', (fun v' acc' n1' n2' S' ex => v' = runTree S.col ∧ (∃ mt : Nat, acc' = .ref mt ∧ ex = [(mt, methodObj (.ref 438) (.ref x))]) ∧ (∃ t, n1' = some (.int 0 t)) ∧ n2' = n2 ∧ S' = S) v' acc' n1' n2' S' ex ∧ DecAt w.params x dx wd al rv pos acc' st n1' n2' S' cells')
  (fun C cells' => ∃ acc' n1' n2' S', (fun _ _ _ _ _ => False) C acc' n1' n2' S' ∧ DecAt w.params x dx wd al rv pos acc' st n1' n2' S' cells') := by
  intro dp un gd cn cs a ccd cl outer A₀ base h₀ L m s Q E cells C hI N hdp hun hret hexc
  refine parse_mode_h C hI N hxd hcol hnn hdp hun ?_
  rintro cells' mt t v h' tk' hD D hof rfl
  exact hret _ cells' [(mt, methodObj (.ref 438) (.ref x))] _ _ ⟨_, _, _, _, ⟨rfl, ⟨mt, rfl, rfl⟩, ⟨t, rfl⟩, rfl, rfl⟩, hD⟩ (own_one hof) D
theorem acc_h1 {m1 m2 : Int} {t1 tm : Tok} (hxd : x ≠ dx) (hn : n1 = some (.int m1 t1)) (hcol : S.col = 0 ∨ S.col = 1) (hm : m2 < 64) : AccTells w mean mg mb x 438 (.int m2 tm) (DecAt w.params x dx wd al rv pos acc st n1 n2 S)
  (fun v' cells' ex => ∃ acc' n1' n2' S', (fun v' acc' n1' n2' S' ex => v' = runTree (1 - S.col) ∧ (∃ mt : Nat, acc' = .ref mt ∧ ex = [(mt, methodObj (.ref 445) (.ref x))]) ∧ (∃ t, n1' = some (.int (m1 + m2) t)) ∧ (∃ t, n2' = some (.int 0 t)) ∧ S' = S.turn) v' acc' n1' n2' S' ex ∧ DecAt w.params x dx wd al rv pos acc' st n1' n2' S' cells')
  (fun C cells' => ∃ acc' n1' n2' S', (fun _ _ _ _ _ => False) C acc' n1' n2' S' ∧ DecAt w.params x dx wd al rv pos acc' st n1' n2' S' cells') := by
  intro dp un gd cn cs a ccd cl outer A₀ base h₀ L m s Q E cells C hI N hdp hun hret hexc
  refine parse_h1_tells C (hn ▸ hI) N hxd hcol hm hdp hun ?_
  rintro cells' mt ta tb v h' tk' hD D hof rfl
  exact hret _ cells' [(mt, methodObj (.ref 445) (.ref x))] _ _ ⟨_, _, _, _, ⟨rfl, ⟨mt, rfl, rfl⟩, ⟨ta, rfl⟩, ⟨tb, rfl⟩, rfl⟩, hD⟩ (own_one hof) D
theorem acc_h2 {m1 m2 v2 : Int} {t1 t2 tm : Tok} (hxd : x ≠ dx) (hn : n1 = some (.int m1 t1)) (hn2 : n2 = some (.int v2 t2)) (W : Ok wd S.turn) (hbb : S.buf.size ≤ 1000000) (hm : m2 < 64) (hm0 : 0 ≤ v2 + m2) (hm2 : v2 + m2 ≤ 3000) (hm1 : 0 ≤ m1) (hm1' : m1 ≤ 3000) : AccTells w mean mg mb x 445 (.int m2 tm) (DecAt w.params x dx wd al rv pos acc st n1 n2 S)
  (fun v' cells' ex => ∃ acc' n1' n2' S', (fun v' acc' n1' n2' S' ex => v' = .ref 139 ∧ (∃ mt : Nat, acc' = .ref mt ∧ ex = [(mt, methodObj (.ref 431) (.ref x))]) ∧ n1' = n1 ∧ (∃ t, n2' = some (.int (v2 + m2) t)) ∧ (wd ≤ (HorS wd m1 (v2 + m2) S.turn).cp → al = false) ∧ S' = fin wd rv (HorS wd m1 (v2 + m2) S.turn)) v' acc' n1' n2' S' ex ∧ DecAt w.params x dx wd al rv pos acc' st n1' n2' S' cells')
  (fun C cells' => ∃ acc' n1' n2' S', (fun C acc' n1' n2' S' => C = 407 ∧ n1' = n1 ∧ (∃ t, n2' = some (.int (v2 + m2) t)) ∧ wd ≤ (HorS wd m1 (v2 + m2) S.turn).cp ∧ al = true ∧ S' = fin wd rv (HorS wd m1 (v2 + m2) S.turn)) C acc' n1' n2' S' ∧ DecAt w.params x dx wd al rv pos acc' st n1' n2' S' cells') := by
  intro dp un gd cn cs a ccd cl outer A₀ base h₀ L m s Q E cells C hI N hdp hun hret hexc
  refine parse_h2_tells (m1 := m1) (v2 := v2) (t1 := t1) (t2 := t2) C (by rw [← hn, ← hn2]; exact hI) N hxd W hbb hm hm0 hm2 hm1 hm1' hdp hun ?_ ?_
  · intro cells' mt t2' h' tk' hal hD D hof
    exact hret _ cells' [(mt, methodObj (.ref 431) (.ref x))] _ _ ⟨_, _, _, _, ⟨rfl, ⟨mt, rfl, rfl⟩, hn.symm, ⟨t2', rfl⟩, hal, rfl⟩, hD⟩ (own_one hof) D
  · intro cells' acc' t2' e h' tk' hle hal hD T
    exact hexc _ cells' _ _ _ ⟨acc', _, _, _, ⟨rfl, hn.symm, ⟨t2', rfl⟩, hle, hal, rfl⟩, hD⟩ T
end

example : True := by w_top off; trivial
theorem kid_node {T : Tr} {b : Bool} {T' : Tr} (h : T.kid b = some T') : ∃ l r, T = .node l r ∧ T' = if b then r else l := by
  cases T with
  | node l r => exact ⟨l, r, rfl, (Option.some.inj h).symm⟩
  | num i => cases h
  | word s => cases h
  | non => cases h
theorem fn_md (P : Params) : fnIn (hd.heap_39 P) 431 = true := by kernel_rfl
theorem fn_h1 (P : Params) : fnIn (hd.heap_39 P) 438 = true := by kernel_rfl
theorem fn_h2 (P : Params) : fnIn (hd.heap_39 P) 445 = true := by kernel_rfl
section
variable {w : World} {mean : ExcName → Option Value} {mg mb : Str → Option Value} {dp un : Nat} {gd : Option (List Code)} {cn : Str} {cs : Scope} {a : Addr} {ccd : Value} {cl : List (Str × Addr)} {outer : List Env} {A₀ : Around} {base h₀ : Heap} {L : Addr} {m : Str → Option Value} {s : Shared} {Q E : Value → Shared → Prop}
variable {x dx : Nat} {wd : Int} {al rv : Bool}
/-- what the contract of one bit says of the end without an exception -/
def BitRet (w : World) (x dx : Nat) (wd : Int) (al rv : Bool) (M : MS) (bit : Bool) (mt : Nat) (cells : List (Addr × Obj)) (s : Shared) (Q : Value → Shared → Prop) : Prop :=
  ∀ M' mt' cells' h' tk', StepR w.params wd al rv M bit (.go M') → MSAt w.params x dx wd al rv mt' M' cells' → Aft s.heap h' (mt :: cells.map (·.1)) ((mt', methodObj (.ref M'.k.fn) (.ref x)) :: cells') → Q .none { s with heap := h', toks := tk' }
def BitExc (w : World) (cn : Str) (cs : Scope) (L a : Addr) (ccd : Value) (cl : List (Str × Addr)) (outer : List Env) (base h₀ : Heap) (m : Str → Option Value) (x dx : Nat) (wd : Int) (al rv : Bool) (M : MS) (bit : Bool) (mt : Nat) (cells : List (Addr × Obj)) (s : Shared) (E : Value → Shared → Prop) : Prop :=
  ∀ C res M' p0 tps acc' st' n1' n2' cells' e h' tk', StepR w.params wd al rv M bit res → ((C = 407 ∧ res = .skip M') ∨ (C = 383 ∧ res = .eof M')) → DecAt w.params x dx wd al rv (.int p0 tps) acc' st' n1' n2' M'.S cells' → OptV n1' M'.n1 → OptV n2' M'.n2 →
    Thrown base h₀ L m s.heap (mt :: cells.map (·.1)) (envX cn cs L a ccd cl :: outer) C cells' e h' → E (.ref e) { s with heap := h', toks := tk' }
theorem bit_tells {M : MS} {mt : Nat} {b : Int} {bit : Bool} {tbt : Tok} {cells : List (Addr × Obj)} (C : Cx w mean mg mb cs outer A₀ base h₀ L m s.heap) (hM : MSAt w.params x dx wd al rv mt M cells) (N : News h₀ L s.heap ((mt, methodObj (.ref M.k.fn) (.ref x)) :: cells)) (hxd : x ≠ dx)
 (hb : if bit = true then b ≠ 0 else b = 0) (hf : Fit wd M bit) (hdp : dp + 7 < recursionLimit) (hun : un + 80 < cLine)
 (hret : BitRet w x dx wd al rv M bit mt cells s Q) (hexc : BitExc w cn cs L a ccd cl outer base h₀ m x dx wd al rv M bit mt cells s E) :
 wpAny (model PG w) (ktrTop dp un gd cn cs L a ccd cl outer) (call (.ref 91) [.ref x, .int b tbt]) Q E s := by
  refine wait fun cW hW => ?_
  obtain ⟨p0, tps, st, n1, n2, f, hD, hT, hn1, hn2, hoff⟩ := hM
  refine hW ?_
  clear hW cW
  refine wait fun cW hW => ?_
  obtain ⟨k, T, S, j1, j2⟩ := M
  refine hW ?_
  clear hW cW
  dsimp only at *
  cases hk : T.kid bit with
  | none => unfold Fit at hf; simp only [hk] at hf
  | some T' =>
  refine wait fun cW hW => ?_
  obtain ⟨l, r, rfl, rfl⟩ := kid_node hk
  refine hW ?_
  clear hW cW
  refine wait fun cW hW => ?_
  obtain ⟨node, v0, v1, nn, f', rfl, hnode, hr0, hr1⟩ := readT_node hT
  refine hW ?_
  clear hW cW
  have hch : readT (hd.heap_39 w.params) f' (if bit = true then v1 else v0) = some (if bit = true then r else l) := by cases bit <;> assumption
  unfold Fit at hf
  simp only [hk] at hf
  cases hT' : (if bit = true then r else l) with
  | non => rw [hT'] at hf; exact hf.elim
  | node l' r' =>
    rw [hT'] at hch
    refine wait fun cW hW => ?_
    obtain ⟨node', w0, w1, nn', f'', hv, hnode', _, _⟩ := readT_node hch
    refine hW ?_
    clear hW cW
    refine parse_bit_in C hD N hoff hxd hnode hb hv hnode' hdp hun ?_
    intro cells' tps' h' tk' hD' D hoff'
    refine hret ⟨k, .node l' r', S, j1, j2⟩ mt cells' h' tk' ?_ ⟨_, _, _, _, _, f', hD', ?_, hn1, hn2, hoff'⟩ D
    · unfold StepR; simp only [hk, hT']
    · rw [← hv]; exact hch
  | num i =>
    rw [hT'] at hch hf
    obtain ⟨ti, hv⟩ := readT_num hch
    cases k with
    | md =>
      refine wait fun cW hW => ?_
      obtain ⟨W, hbb, hd1, hd2⟩ := hf
      refine hW ?_
      clear hW cW
      refine parse_bit_leaf_i C hD N hoff hxd hnode hb hv (fn_md _) (fun tps' => acc_v hxd W hbb hd1 hd2) ?_ ?_ hdp hun
      · intro v' acc' n1' n2' S' ex cells' tps' h' tk' hZ10 hD' hof D
        refine wait fun cW hW => ?_
        obtain ⟨rfl, rfl, rfl, rfl, rfl, S1, hP, hal, rfl⟩ := hZ10
        refine hW ?_
        clear hW cW
        exact hret ⟨.md, modeT w.params, fin wd rv S1, j1, j2⟩ mt cells' h' tk' (by unfold StepR; rw [hk, hT']; dsimp only; exact ⟨S1, hP, .inl ⟨hal, rfl⟩⟩) ⟨_, _, _, _, _, 40, hD', read_mode _, hn1, hn2, own_head hof⟩ (D.sub sub_old)
      · intro C acc' n1' n2' S' cells' tps' e h' tk' hZ10 hD' T
        refine wait fun cW hW => ?_
        obtain ⟨rfl, rfl, rfl, S1, hP, hle, hal, rfl⟩ := hZ10
        refine hW ?_
        clear hW cW
        exact hexc _ _ ⟨.md, modeT w.params, fin wd rv S1, j1, j2⟩ _ _ _ _ _ _ _ _ _ _ (by unfold StepR; rw [hk, hT']; dsimp only; exact ⟨S1, hP, .inr ⟨hle, hal, rfl⟩⟩) (.inl ⟨rfl, rfl⟩) hD' hn1 hn2 T
    | h1 =>
      refine wait fun cW hW => ?_
      obtain ⟨⟨j, rfl⟩, hi, hcol⟩ := hf
      refine hW ?_
      clear hW cW
      obtain ⟨t1, rfl⟩ := optV_some hn1
      refine parse_bit_leaf_i C hD N hoff hxd hnode hb hv (fn_h1 _) (fun tps' => acc_h1 hxd rfl hcol hi) ?_ ?_ hdp hun
      · intro v' acc' n1' n2' S' ex cells' tps' h' tk' hZ10 hD' hof D
        refine wait fun cW hW => ?_
        obtain ⟨rfl, ⟨mt', rfl, rfl⟩, ⟨ta, rfl⟩, ⟨tb, rfl⟩, rfl⟩ := hZ10
        refine hW ?_
        clear hW cW
        exact hret ⟨.h2, runT w.params (1 - S.col), S.turn, some (j + i), some 0⟩ mt' cells' h' tk' (by unfold StepR; rw [hk, hT']; dsimp only; rfl) ⟨_, _, _, _, _, 40, hD', read_run _ _, rfl, rfl, own_tail hof⟩ (D.sub sub_new)
      · rintro C acc' n1' n2' S' cells' tps' e h' tk' hF
        exact hF.elim
    | h2 =>
      refine wait fun cW hW => ?_
      obtain ⟨W, hbb, hi, i1, i2, rfl, rfl, a1, a2, a3, a4⟩ := hf
      refine hW ?_
      clear hW cW
      obtain ⟨t1, rfl⟩ := optV_some hn1
      obtain ⟨t2, rfl⟩ := optV_some hn2
      refine parse_bit_leaf_i C hD N hoff hxd hnode hb hv (fn_h2 _) (fun tps' => acc_h2 hxd rfl rfl W hbb hi a3 a4 a1 a2) ?_ ?_ hdp hun
      · intro v' acc' n1' n2' S' ex cells' tps' h' tk' hZ10 hD' hof D
        refine wait fun cW hW => ?_
        obtain ⟨rfl, ⟨mt', rfl, rfl⟩, rfl, ⟨tb, rfl⟩, hal, rfl⟩ := hZ10
        refine hW ?_
        clear hW cW
        exact hret ⟨.md, modeT w.params, fin wd rv (HorS wd i1 (i2 + i) S.turn), some i1, some (i2 + i)⟩ mt' cells' h' tk' (by unfold StepR; rw [hk, hT']; dsimp only; exact .inl ⟨hal, rfl⟩) ⟨_, _, _, _, _, 40, hD', read_mode _, rfl, rfl, own_tail hof⟩ (D.sub sub_new)
      · intro C acc' n1' n2' S' cells' tps' e h' tk' hZ10 hD' T
        refine wait fun cW hW => ?_
        obtain ⟨rfl, rfl, ⟨tb, rfl⟩, hle, hal, rfl⟩ := hZ10
        refine hW ?_
        clear hW cW
        exact hexc _ _ ⟨.md, modeT w.params, fin wd rv (HorS wd i1 (i2 + i) S.turn), some i1, some (i2 + i)⟩ _ _ _ _ _ _ _ _ _ _ (by unfold StepR; rw [hk, hT']; dsimp only; exact .inr ⟨hle, hal, rfl⟩) (.inl ⟨rfl, rfl⟩) hD' rfl rfl T
  | word sv =>
    rw [hT'] at hch hf
    obtain ⟨ti, hv⟩ := readT_word hch
    obtain ⟨rfl, hf⟩ := hf
    rcases hf with ⟨rfl, W, hbb⟩ | ⟨rfl, hcol, hnn⟩ | rfl
    · refine parse_bit_leaf_s C hD N hoff hxd hnode hb hv (fn_md _) (fun tps' => acc_p hxd W hbb) ?_ ?_ hdp hun
      · intro v' acc' n1' n2' S' ex cells' tps' h' tk' hZ10 hD' hof D
        refine wait fun cW hW => ?_
        obtain ⟨rfl, rfl, rfl, rfl, rfl, S1, hP, hal, rfl⟩ := hZ10
        refine hW ?_
        clear hW cW
        exact hret ⟨.md, modeT w.params, fin wd rv S1, j1, j2⟩ mt cells' h' tk' (by unfold StepR; rw [hk, hT']; dsimp only; rw [if_pos rfl]; exact ⟨S1, hP, .inl ⟨hal, rfl⟩⟩) ⟨_, _, _, _, _, 40, hD', read_mode _, hn1, hn2, own_head hof⟩ (D.sub sub_old)
      · intro C acc' n1' n2' S' cells' tps' e h' tk' hZ10 hD' T
        refine wait fun cW hW => ?_
        obtain ⟨rfl, rfl, rfl, S1, hP, hle, hal, rfl⟩ := hZ10
        refine hW ?_
        clear hW cW
        exact hexc _ _ ⟨.md, modeT w.params, fin wd rv S1, j1, j2⟩ _ _ _ _ _ _ _ _ _ _ (by unfold StepR; rw [hk, hT']; dsimp only; rw [if_pos rfl]; exact ⟨S1, hP, .inr ⟨hle, hal, rfl⟩⟩) (.inl ⟨rfl, rfl⟩) hD' hn1 hn2 T
    · refine parse_bit_leaf_s C hD N hoff hxd hnode hb hv (fn_md _) (fun tps' => acc_h hxd hcol (fun q => (optV_none hn2).mpr (hnn ((optV_none hn1).mp q)))) ?_ ?_ hdp hun
      · intro v' acc' n1' n2' S' ex cells' tps' h' tk' hZ10 hD' hof D
        refine wait fun cW hW => ?_
        obtain ⟨rfl, ⟨mt', rfl, rfl⟩, ⟨ta, rfl⟩, rfl, rfl⟩ := hZ10
        refine hW ?_
        clear hW cW
        exact hret ⟨.h1, runT w.params S'.col, S', some 0, j2⟩ mt' cells' h' tk' (by unfold StepR; rw [hk, hT']; dsimp only; rw [if_neg (by decide +kernel), if_pos rfl]) ⟨_, _, _, _, _, 40, hD', read_run _ _, rfl, hn2, own_tail hof⟩ (D.sub sub_new)
      · rintro C acc' n1' n2' S' cells' tps' e h' tk' hF
        exact hF.elim
    · refine parse_bit_leaf_s C hD N hoff hxd hnode hb hv (fn_md _) (fun tps' => acc_e hxd) ?_ ?_ hdp hun
      · rintro v' acc' n1' n2' S' ex cells' tps' h' tk' hF
        exact hF.elim
      · intro C acc' n1' n2' S' cells' tps' e h' tk' hZ10 hD' T
        refine wait fun cW hW => ?_
        obtain ⟨rfl, rfl, rfl, rfl⟩ := hZ10
        refine hW ?_
        clear hW cW
        exact hexc _ _ ⟨.md, .node l r, S', j1, j2⟩ _ _ _ _ _ _ _ _ _ _ (by unfold StepR; rw [hk, hT']; dsimp only; rw [if_neg (by decide +kernel), if_neg (by decide +kernel)]) (.inr ⟨rfl, rfl⟩) hD' hn1 hn2 T
end

example : True := by w_top off; trivial
section
variable {prog : Program} {w : World} {A : Around} {E : Value → Shared → Prop} {s : Shared} {b : Array UInt8} {t : Tok}
theorem spec_item {it : Addr} {i : Nat} {c : UInt8} {Q : Option Value → Shared → Prop} (hit : KBw.IsBytesIter s.heap it b t i) (hx : b[i]? = some c)
    (hQ : ∀ h', KBw.IsBytesIter h' it b t (i + 1) → Heap.SameBut it s.heap h' → Q (some (.int (c.toNat : Int) s.toks)) { s with heap := h', toks := s.toks + 1 }) : wpAny (model prog w) A (callSpecial? (.ref it) "__next__") Q E s := by
  obtain ⟨o, ho, hc, hd⟩ := id hit
  refine wpAny_callSpecial?_slot (name := PySem.Str.ofString "__next__") (KBw.iter_typeIs hit) KBw.slot_next
    (wpAny_call_entry KBw.slot_next (KBw.iter_typeIs hit) KBw.entry_next ?_ (KBw.args_next _))
  show wpAny _ _ (field (.ref it) 0 >>= _) _ _ s
  refine wpAny_bind (wpAny_field ho hd (x := .bytes b t) rfl ?_)
  show wpAny _ _ (if (Value.bytes b t == Value.none) = true then _ else _) _ _ s
  rw [if_neg (show ¬ ((Value.bytes b t == Value.none) = true) from Bool.false_ne_true)]
  show wpAny _ _ (field (.ref it) 1 >>= _) _ _ s
  refine wpAny_bind (wpAny_field ho hd (x := .int i 0) rfl ?_)
  refine wpAny_bind (wpAny_of_eq (a := b) rfl ?_)
  simp only [Int.toNat_natCast, hx]
  refine wpAny_bind (wpAny_setField ho hd (by simp) (wpAny_bind (wpAny_mkInt (wpAny_pure ⟨_, rfl, hQ _ ?_ (Heap.SameBut.update ..)⟩))))
  exact ⟨_, Heap.get?_update_self _ ho (Obj.isFreed_of_fields (Obj.data_mapFields hd _)), (Obj.cls_mapFields ..).trans hc, by
    rw [Obj.data_mapFields hd]; simp [rawInt]⟩
theorem spec_end {it : Addr} {i : Nat} {Q : Option Value → Shared → Prop} (hh : A.handled = none) (hit : KBw.IsBytesIter s.heap it b t i) (hx : b[i]? = none)
    (hQ : ∀ h' e o vs, Heap.ExtBut it s.heap h' → h'.get? e = some o → o.cls = .type "StopIteration" → o.data = .fields vs → vs[5]? = some .none → E (.ref e) { s with heap := h' }) : wpAny (model prog w) A (callSpecial? (.ref it) "__next__") Q E s := by
  obtain ⟨o, ho, hc, hd⟩ := id hit
  refine wpAny_callSpecial?_slot (name := PySem.Str.ofString "__next__") (KBw.iter_typeIs hit) KBw.slot_next
    (wpAny_call_entry KBw.slot_next (KBw.iter_typeIs hit) KBw.entry_next ?_ (KBw.args_next _))
  show wpAny _ _ (field (.ref it) 0 >>= _) _ _ s
  refine wpAny_bind (wpAny_field ho hd (x := .bytes b t) rfl ?_)
  show wpAny _ _ (if (Value.bytes b t == Value.none) = true then _ else _) _ _ s
  rw [if_neg (show ¬ ((Value.bytes b t == Value.none) = true) from Bool.false_ne_true)]
  show wpAny _ _ (field (.ref it) 1 >>= _) _ _ s
  refine wpAny_bind (wpAny_field ho hd (x := .int i 0) rfl ?_)
  refine wpAny_bind (wpAny_of_eq (a := b) rfl ?_)
  simp only [Int.toNat_natCast, hx]
  refine wpAny_bind (wpAny_rule (wpAny_bind (wpAny_setField ho hd (by simp) ?_)))
  show wpAny _ _ (newExc (.type "StopIteration") [] >>= _) _ _ _
  refine wpAny_bind ?_
  simp only [newExc, newTuple]
  refine wpAny_bind (wpAny_newObj_type ?_ (by size_fits))
  refine wpAny_bind (m := firstArgMember _ _) (wpAny_of_eq (a := Value.none) (by first | rfl | (simp only [firstArgMember]; rfl)) ?_)
  refine wpAny_newObj_type ?_ (by size_fits)
  simp only [raiseNew]
  refine wpAny_bind (wpAny_handled ?_)
  rw [show A.in1.handled = none from hh]
  refine wpAny_bind (wpAny_pure (wpAny_throw ?_))
  exact hQ _ _ _ _ (((Heap.SameBut.update ..).extBut.push _).push _) (Heap.get?_push_size _ rfl) rfl rfl rfl
theorem den_entry (nm : String) (args : Args) : (model prog w).den (.builtin nm args) = (match entryFor table nm with | some b => b args | none => unsupported ((withoutEnding? nm "#data").getD nm)) := rfl
theorem yf_entry : entryFor table "proto.yield_from" = some Builtin.«proto.yield_from» := entryFor_of_tree (by kernel_rfl)
section
variable {R : GenEnd} {Y : Protocol} {n : Nat} {s₀ : Shared} {fs : List Frame}
theorem seg_yf {it : Addr} (h : Seg (model prog w) A R Y n s₀ (.builtin "proto.yield_from" ⟨[.ref it, .bool false, .none], []⟩) (Builtin.«proto.yield_from» ⟨[.ref it, .bool false, .none], []⟩) fs s) :
   Seg (model prog w) A R Y n s₀ (.builtin "proto.yield_from" ⟨[.ref it, .bool false, .none], []⟩) ((model prog w).den (.builtin "proto.yield_from" ⟨[.ref it, .bool false, .none], []⟩)) fs s := by
  rw [den_entry, yf_entry]; exact h
end
end

example : True := by w_top off; trivial
section
variable {prog : Program} {w : World} {A : Around} {E : Value → Shared → Prop} {s : Shared} {b : Array UInt8} {t : Tok} {R : GenEnd} {Y : Protocol} {n : Nat} {s₀ : Shared} {fs : List Frame}
theorem isub_stop : isSubtype (.type "StopIteration") (.type "StopIteration") = pure true := by rw [isSubtype_type]; kernel_rfl
theorem ty_stop : typeOf (.type "StopIteration") = pure (.type "type") := by kernel_rfl
theorem nt_iter : typeLookup (.type "bytes_iterator") (Str.ofString "close") = pure none := by rw [typeLookup_type, builtinLookup_eq_fast]; kernel_rfl
theorem slept {A' : Around} {it : Addr} {i : Nat} {more : Bool} {Q : Unit → Shared → Prop} (hit : KBw.IsBytesIter s.heap it b t i) (h : Q () s) : wpAny (model prog w) A' (Builtin.Generator.sleptOver (.ref it) more) Q E s := by
  obtain ⟨o, ho, hc, hd⟩ := hit
  unfold Builtin.Generator.sleptOver
  refine wpAny_bind (wpAny_load ho ?_)
  rw [hc]
  exact wpAny_pure h
theorem seg_yf_item {it : Addr} {i : Nat} {c : UInt8} (hit : KBw.IsBytesIter s.heap it b t i) (hx : b[i]? = some c) (hfs : splitAtGen fs = none) (hfg : fs.any Frame.guarded = false)
   (hY : ∀ h' (kap : Resume → Shared → Prop), KBw.IsBytesIter h' it b t (i + 1) → Heap.SameBut it s.heap h' →
      (∀ s'', KBw.IsBytesIter s''.heap it b t (i + 1) → Seg (model prog w) A R Y n s'' (.builtin "proto.yield_from" ⟨[.ref it, .bool false, .none], []⟩) (Builtin.«proto.yield_from» ⟨[.ref it, .bool false, .none], []⟩) fs s'' → kap (.send .none) s'') →
      Y n s₀ (.int (c.toNat : Int) s.toks) { s with heap := h', toks := s.toks + 1 } kap) :
   Seg (model prog w) A R Y (n + 1) s₀ (.builtin "proto.yield_from" ⟨[.ref it, .bool false, .none], []⟩) (Builtin.«proto.yield_from» ⟨[.ref it, .bool false, .none], []⟩) fs s := by
  unfold Builtin.«proto.yield_from»
  (try dsimp only)
  simp only [pure_bind, Bool.false_eq_true, if_false]
  refine seg_bind (wpAny_attempt (wpAny_holding ?_))
  rw [if_pos (show (Value.none == Value.none) = true from rfl)]
  refine wpAny_bind (wpAny_rule ?_)
  refine wpAny_bind (spec_item hit hx fun h' hit' hs' => ?_)
  refine wpAny_pure ?_
  (try dsimp only)
  refine seg_bind (wpAny_typeOf (KBw.iter_typeIs hit') ?_)
  (try dsimp only)
  refine seg_bind (wpAny_of_eq nt_iter ?_)
  refine seg_bind (slept hit' ?_)
  refine seg_yield hfs rfl hfg ?_
  refine hY h' _ hit' hs' fun s'' hit'' hseg => ?_
  refine seg_bind (wpAny_pure ?_)
  refine seg_bind (slept hit'' ?_)
  (try dsimp only)
  refine seg_bind (wpAny_of_eq (a := Value.none) rfl ?_)
  refine seg_again (Code.quiet_builtin _ (by decide +kernel)) ?_
  exact seg_yf hseg
theorem seg_yf_end {it : Addr} {i : Nat} (hh : (A.over (.builtin "proto.yield_from" ⟨[.ref it, .bool false, .none], []⟩) fs).handled = none) (hit : KBw.IsBytesIter s.heap it b t i) (hx : b[i]? = none)
   (hk : ∀ h', Heap.ExtBut it s.heap h' → Seg (model prog w) A R Y n s₀ (.builtin "proto.yield_from" ⟨[.ref it, .bool false, .none], []⟩) (leafOf (.ok (.ret .none))) fs { s with heap := h' }) :
   Seg (model prog w) A R Y n s₀ (.builtin "proto.yield_from" ⟨[.ref it, .bool false, .none], []⟩) (Builtin.«proto.yield_from» ⟨[.ref it, .bool false, .none], []⟩) fs s := by
  unfold Builtin.«proto.yield_from»
  (try dsimp only)
  simp only [pure_bind, Bool.false_eq_true, if_false]
  refine seg_bind (wpAny_attempt (wpAny_holding ?_))
  rw [if_pos (show (Value.none == Value.none) = true from rfl)]
  refine wpAny_bind (wpAny_rule ?_)
  refine wpAny_bind (spec_end hh hit hx fun h' e o vs hex ho hc hd h5 => ?_)
  (try dsimp only)
  unfold Builtin.Generator.endsTheTurnAsAValue Builtin.Generator.isStopAndMetaclass
  refine seg_bind (wpAny_bind (wpAny_bind (wpAny_typeOf (T := "StopIteration") ⟨o, ho, hc⟩ ?_)))
  (try dsimp only)
  refine wpAny_bind (wpAny_of_eq isub_stop ?_)
  refine wpAny_bind (wpAny_of_eq ty_stop ?_)
  refine wpAny_pure ?_
  (try dsimp only)
  simp only [Bool.false_eq_true, if_false]
  refine wpAny_pure ?_
  rw [if_pos rfl]
  refine seg_bind (wpAny_rule ?_)
  refine seg_bind (wpAny_field ho hd h5 ?_)
  exact hk h' hex
end

example : True := by w_top off; trivial
section
variable {prog : Program} {w : World} {A : Around} {s : Shared} {b : Array UInt8} {t : Tok} {R : GenEnd} {Y : Protocol} {n : Nat} {s₀ : Shared} {fs : List Frame} {c : Code} {env : Env}
theorem wrap_bind {α β γ : Type} (m : Sem α) (f : α → Sem β) (K : β → Sem γ) (H : Value → Sem γ) (gd : Bool → Bool) (lv : List Value → List Value) : (m >>= f).wrap K H gd lv = m.wrap (fun a => (f a).wrap K H gd lv) H gd lv := by
  rw [Sem.bind_eq_wrap', Sem.wrap_wrap]; rfl
theorem seg_bw {α β : Type} {m : Sem α} {f : α → Sem β} {K : β → Sem Fin} {H : Value → Sem Fin} {gd : Bool → Bool} {lv : List Value → List Value}
  (h : wpAny (model prog w) (A.over c fs) m (fun a s' => Seg (model prog w) A R Y n s₀ c ((f a).wrap K H gd lv) fs s') (fun x s' => Seg (model prog w) A R Y n s₀ c (H x) fs s') s) :
  Seg (model prog w) A R Y n s₀ c ((m >>= f).wrap K H gd lv) fs s := by rw [wrap_bind]; exact seg_wrap h
/-- a generator whose body is «yield from» the one byte of a local name -/
theorem gen_seg {x : Str} {p0 p1 p2 : Pos} {b0 : UInt8} (hN : ∀ {A' : Around} {E' : Value → Shared → Prop} {Q' : Value → Shared → Prop}, Q' (.bytes b t) s → wpAny (model prog w) A' (eval (.Name x p0) env) Q' E' s) (hb : b[0]? = some b0) (hb1 : b[1]? = none) (hi : interactive env = false)
  (hh : A.handled = none)
  (hR : ∀ s'' h3, KBw.IsBytesIter s''.heap s.heap.objs.size b t 1 → Heap.ExtBut s.heap.objs.size s''.heap h3 → R 0 s'' (.ok (.ret .none)) { s'' with heap := h3 })
  (hY : ∀ h' (kap : Resume → Shared → Prop), (∀ a o, s.heap.get? a = some o → h'.get? a = some o) → KBw.IsBytesIter h' s.heap.objs.size b t 1 →
     (∀ s'' , KBw.IsBytesIter s''.heap s.heap.objs.size b t 1 → kap (.send .none) s'') → Y 0 s₀ (.int (b0.toNat : Int) s.toks) { s with heap := h', toks := s.toks + 1 } kap) :
  Seg (model prog w) A R Y 1 s₀ (.func [.Expr (.YieldFrom (.Name x p0) p1) p2] env) ((model prog w).den (.func [.Expr (.YieldFrom (.Name x p0) p1) p2] env)) [] s := by
  refine seg_func ?_
  refine seg_execs_cons ?_
  rw [exec_Expr env _ p2 hi rfl]
  refine seg_at ?_
  show Seg (model prog w) A R Y 1 s₀ _ (Sem.wrap _ _ id id (eval (.YieldFrom (.Name x p0) p1) env >>= fun v => dropValue (.YieldFrom (.Name x p0) p1) p2 v)) [] s
  rw [wrap_bind, arm_eval_YieldFrom]
  refine seg_bw (hN ?_)
  refine seg_bw (wpAny_standAt ?_)
  unfold yieldFrom
  refine seg_bw (wpAny_typeOf (typeIs_bytes s b t) ?_)
  rw [if_neg (by decide)]
  refine seg_bw (wpAny_holding (KBw.pyIter_bytes ?_))
  refine seg_call fun p => ?_
  refine seg_yf (seg_yf_item (t := t) (i := 0) (c := b0) ?_ hb rfl rfl ?_)
  · exact ⟨_, Heap.get?_push_size _ rfl, rfl, rfl⟩
  · intro h' kap hit hs hkap
    refine hY h' kap ?_ hit fun s'' hit'' => hkap s'' hit'' ?_
    · intro a o e
      exact hs.2 a (fun q => Nat.lt_irrefl _ (q ▸ Heap.lt_size e)) |>.trans (Heap.get?_push_of_some _ e)
    · refine seg_yf_end ?_ hit'' hb1 fun h3 hex => ?_
      · first | exact hh | simp [Around.over, marksOver, Frame.marks, hh]
      · refine seg_leaf _ ?_
        exact seg_end _ (hR s'' h3 hit'' hex)
end

example : True := by w_top off; trivial
def genR (b : Array UInt8) (t : Tok) (it : Addr) : GenEnd := fun n s₀ r s₁ => r = .ok (.ret .none) ∧ (n = 0 ∧ ∃ h3, KBw.IsBytesIter s₀.heap it b t 1 ∧ Heap.ExtBut it s₀.heap h3 ∧ s₁ = { s₀ with heap := h3 })
def genY (b : Array UInt8) (t : Tok) (b0 : UInt8) (it : Addr) : Protocol := fun n s₀ v s₁ kap => n = 0 ∧ v = .int (b0.toNat : Int) s₀.toks ∧ ∃ h', s₁ = { s₀ with heap := h', toks := s₀.toks + 1 } ∧ (∀ a o, s₀.heap.get? a = some o → h'.get? a = some o) ∧ KBw.IsBytesIter h' it b t 1 ∧
   ∀ s'', KBw.IsBytesIter s''.heap it b t 1 → kap (.send .none) s''
section
variable {prog : Program} {w : World} {A : Around} {E : Value → Shared → Prop} {s : Shared} {b : Array UInt8} {t : Tok}
theorem next_genQ {a : Addr} {g n : Nat} {gs : GenState} {P : Nat → Shared → Shared → Prop} {Y : Protocol} {Q : Option Value → Shared → Prop} (hh : A.handled = none)
    (hl : s.heap.NoLimit) (hroom : A.depth < recursionLimit) (hg : s.heap.IsGen a g) (hgs : s.gens[g]? = some gs)
    (hgo : gs.Goes (model prog w) A.in1 (fun n s₀ r s₁ => r = .ok (.ret .none) ∧ P n s₀ s₁) Y n (.send .none) (s.setGen g .running))
    (hY : ∀ v s₁ gs', gs'.bare = true → Y (n - 1) (s.setGen g .running) v s₁ (fun r' s'' => match n with
        | 0 => False
        | m + 1 => gs'.Goes (model prog w) A.in1 (fun n s₀ r s₁ => r = .ok (.ret .none) ∧ P n s₀ s₁) Y m r' s'') → Q (some v) (s₁.setGen g gs'))
    (hP : ∀ s₁, P n (s.setGen g .running) s₁ → ∀ h', (∀ b o, s₁.heap.get? b = some o → h'.get? b = some o) → Q none { s₁.setGen g .finished with heap := h' }) :
    wpAny (model prog w) A (pyNext (.ref a)) Q E s := by
  unfold pyNext
  refine wpAny_bind (wpAny_attempt (wpAny_callSpecial?_slot (name := Str.ofString "__next__") hg.typeIs slot_gen_next
    (wpAny_call_entry slot_gen_next hg.typeIs entry_gen_next ?_ (args_gen_next _))))
  show wpAny _ A.in1 (Builtin.Generator.genWake (.ref a) (.send .none)) _ _ s
  unfold Builtin.Generator.genWake
  refine wpAny_bind (wpAny_holding (wpAny_genNumber hg (wpAny_bind (wpAny_genState hgs ?_))))
  have key : gs.Goes (model prog w) A.in1 (fun n s₀ r s₁ => r = .ok (.ret .none) ∧ P n s₀ s₁) Y n (.send .none) (s.setGen g .running) := hgo
  cases gs with
  | running => exact hgo.elim
  | finished => exact hgo.elim
  | _ =>
    refine wpAny_bind (wpAny_roomToWake hl hroom ?_)
    show wpAny _ A.in1 (.resume g (.send .none) [] _) _ _ s
    refine wpAny_resumeQ hgs key (fun x s₁ hx => ?_) (fun v s₁ gs' hb hv => ?_)
    · obtain ⟨rfl, hp⟩ := hx
      show wpAny _ A.in1 (newExc (.type "StopIteration") [] >>= _) _ _ _
      refine wpAny_bind ?_
      simp only [newExc, newTuple]
      refine wpAny_bind (wpAny_newObj_type ?_ (by size_fits))
      refine wpAny_bind (m := firstArgMember _ _) (wpAny_of_eq (a := Value.none) (by first | rfl | (simp only [firstArgMember]; rfl)) ?_)
      refine wpAny_newObj_type ?_ (by size_fits)
      simp only [raiseNew]
      refine wpAny_bind (wpAny_bind (wpAny_handled ?_))
      first | rw [show A.in1.handled = none from hh] | rw [hh]
      refine wpAny_throw ?_
      refine wpAny_bind (wpAny_isInstance (T := "StopIteration") (b := true) ⟨_, Heap.get?_push_size _ rfl, rfl⟩ isSubtype_stop ?_)
      exact wpAny_pure (hP s₁ hp _ fun b o hb => Heap.get?_push_of_some _ (Heap.get?_push_of_some _ hb))
    · exact wpAny_pure ⟨v, rfl, wpAny_pure (hY v s₁ gs' hb hv)⟩
/-- the generator sleeps behind its one byte -/
def Sleeps (prog : Program) (w : World) (A : Around) (b : Array UInt8) (t : Tok) (b0 : UInt8) (it : Addr) (gs : GenState) : Prop :=
  gs.bare = true ∧ ∀ s'', KBw.IsBytesIter s''.heap it b t 1 → gs.Goes (model prog w) A.in1 (genR b t it) (genY b t b0 it) 0 (.send .none) s''
theorem gen_next1 {a : Addr} {g : Nat} {env : Env} {x : Str} {p0 p1 p2 : Pos} {b0 : UInt8} {Q : Option Value → Shared → Prop} (hh : A.handled = none) (hl : s.heap.NoLimit) (hroom : A.depth < recursionLimit) (hg : s.heap.IsGen a g)
   (hgs : s.gens[g]? = some (.fresh (.func [.Expr (.YieldFrom (.Name x p0) p1) p2] env)))
   (hN : ∀ {A' : Around} {E' : Value → Shared → Prop} {Q' : Value → Shared → Prop}, Q' (.bytes b t) (s.setGen g .running) → wpAny (model prog w) A' (eval (.Name x p0) env) Q' E' (s.setGen g .running)) (hb : b[0]? = some b0) (hb1 : b[1]? = none) (hi : interactive env = false)
   (hQ : ∀ h' gs', (∀ a o, s.heap.get? a = some o → h'.get? a = some o) → KBw.IsBytesIter h' s.heap.objs.size b t 1 → Sleeps prog w A b t b0 s.heap.objs.size gs' → Q (some (.int (b0.toNat : Int) s.toks)) { s.setGen g gs' with heap := h', toks := s.toks + 1 }) :
   wpAny (model prog w) A (pyNext (.ref a)) Q E s := by
  refine next_genQ (n := 1) (P := fun n s₀ s₁ => n = 0 ∧ ∃ h3, KBw.IsBytesIter s₀.heap s.heap.objs.size b t 1 ∧ Heap.ExtBut s.heap.objs.size s₀.heap h3 ∧ s₁ = { s₀ with heap := h3 }) (Y := genY b t b0 s.heap.objs.size) hh hl hroom hg hgs ⟨rfl, ?_⟩ ?_ ?_
  · exact gen_seg (s := s.setGen g .running) (R := genR b t s.heap.objs.size) hN hb hb1 hi hh (fun s'' h3 h1 h2 => ⟨rfl, rfl, h3, h1, h2, rfl⟩) fun h' kap hk hit hkap => ⟨rfl, rfl, h', rfl, hk, hit, hkap⟩
  · rintro v s₁ gs' hbare ⟨_, rfl, h', rfl, hk, hit, hkap⟩
    have := hQ h' gs' hk hit ⟨hbare, hkap⟩
    simpa [Shared.setGen] using this
  · rintro s₁ ⟨h0, _⟩
    cases h0
theorem gen_next2 {a it : Addr} {g : Nat} {gs : GenState} {b0 : UInt8} {Q : Option Value → Shared → Prop} (hh : A.handled = none) (hl : s.heap.NoLimit) (hroom : A.depth < recursionLimit) (hg : s.heap.IsGen a g)
   (hgs : s.gens[g]? = some gs) (hS : Sleeps prog w A b t b0 it gs) (hit : KBw.IsBytesIter s.heap it b t 1)
   (hQ : ∀ h', Heap.ExtBut it s.heap h' → Q none { s.setGen g .finished with heap := h' }) :
   wpAny (model prog w) A (pyNext (.ref a)) Q E s := by
  refine next_genQ (n := 0) (P := fun n s₀ s₁ => n = 0 ∧ ∃ h3, KBw.IsBytesIter s₀.heap it b t 1 ∧ Heap.ExtBut it s₀.heap h3 ∧ s₁ = { s₀ with heap := h3 }) (Y := genY b t b0 it) hh hl hroom hg hgs (hS.2 _ hit) ?_ ?_
  · rintro v s₁ gs' hbare ⟨_, rfl, h', rfl, hk, hit, hkap⟩
    exact (hkap { s with heap := h' } hit).elim
  · rintro s₁ ⟨_, h3, _, hex, rfl⟩ h' hk
    have := hQ h' fun b o hne e => hk b o (hex b o hne e)
    simpa [Shared.setGen] using this
end

example : True := by w_top off; trivial
section
variable {prog : Program} {w : World} {A : Around} {E : Value → Shared → Prop} {s : Shared} {h₀ : Heap} {L : Addr} {m : Str → Option Value}
theorem call_gen {K : Frag} {p : Program} {loose : List Str} {mean : ExcName → Option Value} {mg mb : Str → Option Value} {name qual : Str} {params : Arguments} {body : List Stmt} {scope : Scope} {dV kV doc pm cdv ct oc : Value} {an od : Option Addr} {osl : Array (Option Value)} {f : Addr} {vs : List Value} {binds : List (Str × Value)} {Q : Value → Shared → Prop}
    (F : Fr h₀ L s.heap m) (X : K.In h₀) (T : Top p loose mean mg mb h₀) (ho : K.lookup f = some ⟨oc, od, .func (fnOf name qual params body scope dV kV doc pm an cdv ct), osl⟩) (hcd : codeIn K cdv qual = true) (hroom : A.depth < recursionLimit)
    (hbind : BindsTo s (fnOf name qual params body scope dV kV doc pm an cdv ct) ⟨vs, []⟩ binds) (hloc : ∀ y ∈ binds, scope.names.lookup y.1 = some .local)
    (hco : scope.isCoroutine = false) (hgen : scope.isGenerator = true) (hk : scope.kind = .function) (hcell : ∀ x ∈ scope.names, x.2 ≠ .cell)
    (hQ : ∀ h' tk', (∀ b o, s.heap.get? b = some o → h'.get? b = some o) → h'.Ns s.heap.objs.size (fun y => binds.reverse.lookup y) → h'.IsGen (s.heap.objs.size + 1) s.gens.size → h'.NoLimit →
      Q (.ref (s.heap.objs.size + 1)) { s with heap := h', gens := s.gens.push (.fresh (.func body (envOf qual scope s.heap.objs.size f cdv))), toks := tk' }) :
    wpAny (model prog w) A (call (.ref f) vs) Q E s := by
  have hl := T.nolimit.keeps F.keep
  refine wpAny_call ?_
  refine codeAny_call_generator (fd := fnOf name qual params body scope dV kV doc pm an cdv ct) hroom ((X.keeps F.keep) _ _ ho) rfl hco hgen rfl (codeRec_of (X.keeps F.keep) hcd) ?_
  refine hbind _ _ _ _ ?_
  refine wpAny_newFunctionEnv hcell hloc (fun h' hns hsb => ?_) hk
  have hkeep : ∀ b o, s.heap.get? b = some o → h'.get? b = some o := fun b o e => hsb.extBut b o (Nat.ne_of_lt (Heap.lt_size e)) (Heap.get?_push_of_some _ e)
  have hsz : h'.objs.size = s.heap.objs.size + 1 := by
    have := hsb.1
    rw [Heap.size_push] at this
    exact this
  refine ⟨hl.keeps hkeep, ?_⟩
  show Q (.ref h'.objs.size) _
  have hQ' := hQ (h'.push { cls := .type "generator", data := .fields #[.int s.gens.size 0, .str name (s.toks + binds.length), .str qual (s.toks + binds.length + 1)] }) (s.toks + binds.length + 1 + 1)
    (fun b o e => Heap.get?_push_of_some _ (hkeep b o e)) (hns.keeps fun b o e => Heap.get?_push_of_some _ e)
    (by rw [← hsz]; exact ⟨_, _, _, Heap.get?_push_size _ rfl, rfl, rfl, rfl⟩) ((hl.keeps hkeep).keeps fun b o e => Heap.get?_push_of_some _ e)
  rw [hsz]
  exact hQ'
theorem gen_name {qual : Str} {scope : Scope} {f : Addr} {cd : Value} {Lg : Addr} {m' : Str → Option Value} {x : Str} {pos : Pos} {v : Value} {Q : Value → Shared → Prop} (hN : s.heap.Ns Lg m') (hv : m' x = some v) (hk : scope.kind = .function) (hl : (envOf qual scope Lg f cd).kindOf x = some .local) (hd : (x == ("__debug__" : Str)) = false) (h : Q v s) :
    wpAny (model prog w) A (eval (.Name x pos) (envOf qual scope Lg f cd)) Q E s := wpAny_Name (wpAny_loadName_local hk hl hN hv h) hd
end

local macro_rules | `(tactic| ktr_step) => `(tactic| ((try k_fold); repeat' (first | (k_unfold; (try dsimp only)) | ((fail_if_success (first | tb_start | with_reducible first | show RaiseQ _ _ _ _ _ | show wpAny _ _ (leaving _ _) _ _ _ | show wpAny _ _ (call (Value.ref _) _) _ _ _ | show wpAny _ _ (exec (Stmt.For _ _ _ _ _) _) _ _ _ | show wpAny _ _ (exec (Stmt.Try _ _ _ _ _) _) _ _ _)); tb_rel)); all_goals (try (dsimp only; k_unfold; (try dsimp only)))))
local macro_rules | `(tactic| ktr_enter) => `(tactic| ((try k_fold); repeat' (first | (k_unfold; (try dsimp only)) | ((fail_if_success (first | tb_start | with_reducible first | show RaiseQ _ _ _ _ _ | show wpAny _ _ (leaving _ _) _ _ _ | show wpAny _ _ (call (Value.ref _) _) _ _ _)); first | keq_hits | kct_strs | walk1 | (dsimp only; walk1))); all_goals (try (dsimp only; k_unfold; (try dsimp only)))))

example : True := by w_top off; trivial
inductive TupNext (g : Heap) (L : Addr) (it : Addr) (o : Obj) (D : Addr) (tup : Obj) (J : Nat → (Str → Option Value) → List (Addr × Obj) → Prop) (i : Nat) (gens : Array GenState) (d : Drawn) (os : OsState) (s₂ : Shared) : Prop where
  | intro : ∀ h' tk' m₂ nx', s₂ = ⟨h', gens, d, tk', os⟩ → Fr g L h' m₂ → News g L h' ((it, o) :: (D, tup) :: nx') → (∀ p ∈ nx', p.1 ≠ it ∧ p.1 ≠ D) → J i m₂ nx' → TupNext g L it o D tup J i gens d os s₂
/-- what a turn of the loop over a tuple leaves -/
def TupPost (g : Heap) (L : Addr) (it : Addr) (o : Obj) (D : Addr) (tup : Obj) (J : Nat → (Str → Option Value) → List (Addr × Obj) → Prop) (i : Nat) (s : Shared) (Q : Flow → Shared → Prop) (f : Flow) (s₂ : Shared) : Prop :=
  match f with
  | .ret v => Q (.ret v) s₂
  | .brk => Q .next s₂
  | _ => TupNext g L it o D tup J i s.gens s.drawn s.os s₂
section
variable {prog : Program} {w : World} {A : Around} {E : Value → Shared → Prop} {s : Shared} {env : Env} {g : Heap} {x : Str} {px : Pos} {body : List Stmt} {Q : Flow → Shared → Prop}
/-- a loop over a tuple of the ledger; the other cells may change their places -/
theorem for_tup {D : Addr} {tup : Obj} {vs : Array Value} {n0 : Nat} {m : Str → Option Value} {nx0 : List (Addr × Obj)} (hh : A.handled = none) (F : Fr g env.locals s.heap m) (N : News g env.locals s.heap ((D, tup) :: nx0)) (hcls : tup.cls = .type "tuple") (hdat : tup.data = .seq vs n0)
   (hoff : ∀ p ∈ nx0, p.1 ≠ D) (hx : env.kindOf x = some .local) (hp : (env.scope.kind == .class || (env.scope.kind == .module && env.locals != env.globals)) = false) (hE : PassesOwn (model prog w) A env E)
   (J : Nat → (Str → Option Value) → List (Addr × Obj) → Prop) (h0 : J 0 m nx0)
   (turn : ∀ i v m₁ nx h tk it o, vs[i]? = some v → J i m₁ nx → it ≠ D → (∀ p ∈ nx, p.1 ≠ it ∧ p.1 ≠ D) → Fr g env.locals h (fun y => if y = x then some v else m₁ y) → News g env.locals h ((it, o) :: (D, tup) :: nx) →
     wpAny (model prog w) A (execs body env) (TupPost g env.locals it o D tup J (i + 1) s Q) E { s with heap := h, toks := tk })
   (done : ∀ h' tk' m₂ nx', J vs.size m₂ nx' → Fr g env.locals h' m₂ → News g env.locals h' nx' → Q .next { s with heap := h', toks := tk' }) :
   wpAny (model prog w) A (pyIter (.ref D)) (fun it s₂ => codeAny (model prog w) A (.forLoop (.Name x px) it body [] env) (fun r s' => match r with | .ok f => Q f s' | .error e => cameBackBy (model prog w) A env E e s') s₂) E s := by
  have hD := N (D, tup) (.head _)
  have hDl : D < s.heap.objs.size := Heap.lt_size hD.1
  refine wpAny_pyIter_tuple ⟨tup, hD.1, hcls, n0, hdat⟩ ?_
  have W := Walks.tuple (prog := prog) (w := w) hh s.heap.objs.size D (Nat.ne_of_lt hDl) vs
  have hgn : ∀ b, s.heap.objs.size ≤ b → g.get? b = none := fun b hb => Heap.get?_none_of_le (Nat.le_trans F.above (Nat.le_trans (Nat.le_of_lt F.ns.lt) hb))
  refine codeAny_forLoop_frV (R := fun r s' => match r with | .ok f => Q f s' | .error e => cameBackBy (model prog w) A env E e s') W hx hp (m := m) (news := (D, tup) :: nx0) ?_ ?_ ?_ ⟨⟨_, Heap.get?_push_size _ rfl, rfl, rfl⟩, ⟨tup, Heap.get?_push_of_some _ hD.1, hcls, n0, hdat⟩⟩ (F.push _) (fun p hp => ⟨Heap.get?_push_of_some _ (N p hp).1, (N p hp).2⟩)
    (fun i m₁ nx => ∃ nx', nx = (D, tup) :: nx' ∧ (∀ p ∈ nx', p.1 ≠ D) ∧ J i m₁ nx') ⟨nx0, rfl, hoff, h0⟩ ?_ ?_
  · intro hm
    rcases List.mem_cons.mp hm with e | hm
    · exact absurd F.ns.lt (e ▸ Nat.lt_irrefl _)
    · exact hD.2.1 (List.mem_singleton.mp hm).symm
  · intro b hb
    rw [List.mem_singleton.mp hb]
    exact hgn _ (Nat.le_refl _)
  · intro p hp hI
    exact absurd (Heap.lt_size (N p hp).1) ((List.mem_singleton.mp hI) ▸ Nat.lt_irrefl _)
  · intro i v m₁ nx s₁ own hZ6 hin hP hZ9 hwr hown hget hin2 hst F₁ N₁
    refine wait fun cW hW => ?_
    obtain ⟨hs, tks, rfl⟩ := hZ6
    obtain ⟨nx', rfl, hoff', hJ⟩ := hZ9
    refine hW ?_
    clear hW cW
    refine wait fun cW hW => ?_
    obtain ⟨o, hito, _⟩ := id hst.1
    refine hW ?_
    clear hW cW
    have hito : hs.get? s.heap.objs.size = some o := hito
    have hio : (s.heap.objs.size, o) ∈ own := hin2 _ (.head _) (hgn _ (Nat.le_refl _)) o hito
    have hoff2 : ∀ p ∈ nx', p.1 ≠ s.heap.objs.size ∧ p.1 ≠ D := fun p hp => ⟨fun e => hwr p (.tail _ hp) (by rw [e]; exact .head _), hoff' p hp⟩
    have N₂ : News g env.locals hs ((s.heap.objs.size, o) :: (D, tup) :: nx') := fun p hp => by
      rcases List.mem_cons.mp hp with rfl | hp
      · exact N₁ _ (List.mem_append_left _ hio)
      · exact N₁ _ (List.mem_append_right _ hp)
    refine wpAny_passesOwn hE (wpAny_mono (turn i v m₁ nx' hs tks _ o hP hJ (Nat.ne_of_gt hDl) hoff2 F₁ N₂) (fun f s₂ h₂ => ?_) fun _ _ e => e)
    have key : TupNext g env.locals s.heap.objs.size o D tup J (i + 1) s.gens s.drawn s.os s₂ →
        LoopStepU g env.locals [s.heap.objs.size] own (fun m₁ nx => ∃ nx', nx = (D, tup) :: nx' ∧ (∀ p ∈ nx', p.1 ≠ D) ∧ J (i + 1) m₁ nx') { s with heap := hs, toks := tks } .next s₂ := by
      intro hZ0
      refine wait fun cW hW => ?_
      obtain ⟨h', tk', m₂, nx2, rfl, F3, N3, off3, hJ3⟩ := hZ0
      refine hW ?_
      clear hW cW
      refine ⟨rfl, h', tk', m₂, (D, tup) :: nx2, rfl, F3, fun p hp => ?_, fun p hp hI => ?_, nx2, rfl, fun p hp => (off3 p hp).2, hJ3⟩
      · rcases List.mem_append.mp hp with z | z
        · have hg := hget p z
          rcases List.mem_cons.mp (hown p z) with e | e
          · rw [e] at hg
            have : p = (s.heap.objs.size, o) := Prod.ext e (Option.some.inj (hg.symm.trans hito))
            rw [this]; exact N3 _ (.head _)
          · have e := List.mem_singleton.mp e
            rw [e] at hg
            have : p = (D, tup) := Prod.ext e (Option.some.inj (hg.symm.trans (N₂ _ (.tail _ (.head _))).1))
            rw [this]; exact N3 _ (.tail _ (.head _))
        · exact N3 _ (.tail _ z)
      · have hI := List.mem_singleton.mp hI
        rcases List.mem_cons.mp hp with rfl | hp
        · exact Nat.ne_of_lt hDl hI
        · exact (off3 p hp).1 hI
    cases f with
    | ret v => exact h₂
    | brk => exact h₂
    | cont => exact key h₂
    | next => exact key h₂
  · intro h' tk' m' nx F' N' _ hZ7
    refine wait fun cW hW => ?_
    obtain ⟨nx', rfl, _, hJ⟩ := hZ7
    refine hW ?_
    clear hW cW
    exact done h' tk' m' nx' hJ F' (fun p hp => N' p (.tail _ hp))
end
theorem off_tup {mt it D : Addr} {o tup om : Obj} {cells rest : List (Addr × Obj)} (h : ∀ p ∈ ((mt, om) :: cells) ++ rest, p.1 ≠ it ∧ p.1 ≠ D) (hr : OwnOff rest (mt :: cells.map (·.1))) : ∀ p ∈ (it, o) :: (D, tup) :: rest, p.1 ∉ ((mt, om) :: cells).map (·.1) := fun p hp hm => by
  refine wait fun cW hW => ?_
  obtain ⟨q, hq, e⟩ := List.mem_map.mp hm
  refine hW ?_
  clear hW cW
  have hq' := h q (List.mem_append_left _ hq)
  rcases List.mem_cons.mp hp with rfl | hp
  · exact hq'.1 e
  · rcases List.mem_cons.mp hp with rfl | hp
    · exact hq'.2 e
    · exact hr p hp q.1 (by
        rcases List.mem_cons.mp hq with rfl | hq
        · exact .head _
        · exact .tail _ (List.mem_map_of_mem hq)) e.symm
theorem own_new {mt it D : Addr} {o tup om : Obj} {cells rest : List (Addr × Obj)} (H : ∀ p ∈ ((mt, om) :: cells), ∀ q ∈ (it, o) :: (D, tup) :: rest, p.1 ≠ q.1) (hrest : ∀ p ∈ rest, p.1 ≠ it ∧ p.1 ≠ D) :
   OwnOff rest (mt :: cells.map (·.1)) ∧ ∀ p ∈ ((mt, om) :: cells) ++ rest, p.1 ≠ it ∧ p.1 ≠ D := by
  refine ⟨fun p hp b hb e => ?_, fun p hp => ?_⟩
  · obtain ⟨q, hq, rfl⟩ : ∃ q ∈ ((mt, om) :: cells), q.1 = b := by
      rcases List.mem_cons.mp hb with rfl | hb
      · exact ⟨_, .head _, rfl⟩
      · refine wait fun cW hW => ?_
        obtain ⟨q, hq, e⟩ := List.mem_map.mp hb
        refine hW ?_
        clear hW cW
        exact ⟨q, .tail _ hq, e⟩
    exact H q hq p (.tail _ (.tail _ hp)) e.symm
  · rcases List.mem_append.mp hp with z | z
    · exact ⟨H p z _ (.head _), H p z _ (.tail _ (.head _))⟩
    · exact hrest p z
theorem news_tup {g h : Heap} {L : Addr} {a b : Addr × Obj} {cells rest : List (Addr × Obj)} (N1 : News g L h (a :: b :: rest)) (N2 : News g L h cells) : News g L h (a :: b :: (cells ++ rest)) := fun p hp => by
  rcases List.mem_cons.mp hp with rfl | hp
  · exact N1 _ (.head _)
  · rcases List.mem_cons.mp hp with rfl | hp
    · exact N1 _ (.tail _ (.head _))
    · rcases List.mem_append.mp hp with z | z
      · exact N2 p z
      · exact N1 p (.tail _ (.tail _ z))

example : True := by w_top off; trivial
theorem match_same {K : Frag} {M : Model} {A : Around} {E : Value → Shared → Prop} {s : Shared} {C e : Addr} {ob : Obj} {Q : Bool → Shared → Prop} (X : K.In s.heap) (q : ExcK K C) (hob : s.heap.get? e = some ob) (hc : ob.cls = .ref C) (h : Q true s) : wpAny M A (excMatches (.ref e) (.ref C)) Q E s := by
  refine wait fun cW hW => ?_
  obtain ⟨N, nm, q', bs, hdct, sn, sub, ab, col, dd, k0, k1, k2, k3, k5, hC, _, _, _⟩ := q
  refine hW ?_
  clear hW cW
  refine wait fun cW hW => ?_
  obtain ⟨hp, g, d, tk, os⟩ := s
  refine hW ?_
  clear hW cW
  exact wpAny_excMatches_sub_self (X _ _ hC) hob hc rfl h
theorem match_other {K : Frag} {M : Model} {A : Around} {E : Value → Shared → Prop} {s : Shared} {C C' e : Addr} {ob : Obj} {Q : Bool → Shared → Prop} (X : K.In s.heap) (hne : C ≠ C') (hno : BM.contains (.ref C') = false) (q : ExcK K C) (q2 : ExcK K C') (hob : s.heap.get? e = some ob) (hc : ob.cls = .ref C) (h : Q false s) : wpAny M A (excMatches (.ref e) (.ref C')) Q E s := by
  refine wait fun cW hW => ?_
  obtain ⟨N, nm, q', bs, hdct, sn, sub, ab, col, dd, k0, k1, k2, k3, k5, hC, _, _, _⟩ := q
  replace hC := X _ _ hC
  refine hW ?_
  clear hW cW
  refine wait fun cW hW => ?_
  obtain ⟨N', nm', q'', bs', hdct', sn', sub', ab', col', dd', l0, l1, l2, l3, l5, hC', _, _, _⟩ := q2
  replace hC' := X _ _ hC'
  refine hW ?_
  clear hW cW
  refine wait fun cW hW => ?_
  obtain ⟨hp, g, d, tk, os⟩ := s
  refine hW ?_
  clear hW cW
  have hcB : (Value.ref C' :: BM).contains (.type "BaseException") = true := rfl
  have hcC : (Value.ref C :: BM).contains (.ref C') = false := by
    rw [List.contains_cons, hno, Bool.or_false]
    exact beq_eq_false_iff_ne.mpr fun z => hne (by cases z; rfl)
  have f := tc_notTuple
  unfold excMatches
  repeat (first | (with_reducible refine wpAny_loadPart_at hob ?_; rw [hc]) | with_reducible refine wpAny_loadPart_at hC' ?_ | (with_reducible refine wpAny_isSubtype_exc hC' ?_; rw [hcB]) | (with_reducible refine wpAny_isSubtype_exc hC ?_; rw [hcC]) | wp_step)
  exact h
section
variable {prog : Program} {w : World} {A₀ : Around} {E : Value → Shared → Prop} {s' : Shared} {base g : Heap} {outer : List Env} {L a e C : Addr} {m : Str → Option Value} {name : Str} {scope : Scope} {cd : Value} {hs : List ExceptHandler} {Q : Flow → Shared → Prop} {cells rest : List (Addr × Obj)} {H : Heap} {adr : List Addr} {KF : Frag}
  {p : Program} {loose : List Str} {mean : ExcName → Option Value} {mg mb : Str → Option Value}
theorem caught_stage (R : Thrown base g L m H adr (envOf name scope L a cd :: outer) C cells e s'.heap) (K : Below A₀ base outer g) (XB : KF.In base) (TB : Top p loose mean mg mb base) (D : KtsDicts (outer.filterMap (·.frame)) g)
   (NR : News g L H rest) (hoff : ∀ q ∈ rest, q.1 ∉ adr)
   (k : ∀ h₅ g₅ ob, (∀ p ∈ cells, ∀ q ∈ rest, p.1 ≠ q.1) → Fr g₅ L h₅ m → News g₅ L h₅ (cells ++ rest) → KF.In g₅ → Top p loose mean mg mb g₅ → h₅.get? e = some ob → ob.cls = .ref C →
     (∀ (A' : Around) (Q' : Unit → Shared → Prop) (E' : Value → Shared → Prop) (s'' : Shared), s''.heap = h₅ → (∀ h₆ g₆, KtsTurn (outer.filterMap (·.frame)) g g₆ → Fr g₆ L h₆ m → News g₆ L h₆ (cells ++ rest) → Below A₀ base outer g₆ → KF.In g₆ → Top p loose mean mg mb g₆ → Q' () { s'' with heap := h₆ }) → wpAny (model prog w) A' (setFlight (.ref e) none) Q' E' s'') →
     wpAny (model prog w) (A₀.deeper (envOf name scope L a cd)) (handleBy (.ref e) (envOf name scope L a cd) hs) Q E { s' with heap := h₅ }) :
   wpAny (model prog w) (A₀.deeper (envOf name scope L a cd)) (noteFrame (.ref e) (envOf name scope L a cd))
      (fun _ s₂ => wpAny (model prog w) (A₀.deeper (envOf name scope L a cd)) (setFlight (.ref e) none) (fun _ s₃ =>
        wpAny (model prog w) (A₀.deeper (envOf name scope L a cd)) (handleBy (.ref e) (envOf name scope L a cd) hs) Q E s₃) E s₂) E s' := by
  refine wait fun cW hW => ?_
  obtain ⟨G, t, vs, F, GS, ⟨⟨B, hB, hBG, hl, hfl, hnew⟩, htup⟩, hsm⟩ := R
  refine hW ?_
  clear hW cW
  have hL : B.get? L = none := by
    refine wait fun cW hW => ?_
    obtain ⟨_, ⟨L', _, hf, hn', _⟩, _⟩ := hfl.2.2.1
    refine hW ?_
    clear hW cW
    obtain rfl : L = L' := Option.some.inj hf
    exact hn'
  have hrest : ∀ q ∈ rest, B.get? q.1 = some q.2 ∧ g.get? q.1 = none := fun q hq => by
    refine ⟨hBG _ _ (GS _ _ (NR q hq).1 (hoff q hq)) fun hm => ?_, (NR q hq).2.2⟩
    rcases kts_mem hm with z | z
    · exact (NR q hq).2.1 z
    · refine wait fun cW hW => ?_
      obtain ⟨_, o, ho, _⟩ := K.frames.mem z
      refine hW ?_
      clear hW cW
      rw [(NR q hq).2.2] at ho
      cases ho
  have all : ∀ {g' h'}, KtsTurn (outer.filterMap (·.frame)) g g' → B.StaysIn h' → News g' L h' (cells ++ rest) := fun T st q hq => by
    rcases List.mem_append.mp hq with hq | hq
    · exact ⟨st _ _ (hl q hq).1, (fun z => by have := (hl q hq).1; rw [z, hL] at this; cases this), T.none_ _ (kts_none F.keep (hl q hq).2.1)⟩
    · exact ⟨st _ _ (hrest q hq).1, (NR q hq).2.1, T.none_ _ (hrest q hq).2⟩
  refine wpAny_looks_onW (Around.frames_deeper K.stack) rfl hfl fun h₄ hheld₄ hsm₄ => ?_
  refine wpAny_landsW hheld₄ fun h₅ hheld hsm₅' => ?_
  have hsm₅ := hsm₄.trans hsm₅'
  refine wait fun cW hW => ?_
  obtain ⟨g₅, T₅, F₅, K₅⟩ := kts_ground K F hBG hheld.1 (hsm.trans hsm₅)
  refine hW ?_
  clear hW cW
  refine wait fun cW hW => ?_
  obtain ⟨ob, hob, hobc⟩ := hheld.there
  refine hW ?_
  clear hW cW
  refine k h₅ g₅ ob (fun p hp q hq e => by
    have h1 := (hl p hp).2.1
    rw [e, GS _ _ (NR q hq).1 (hoff q hq)] at h1
    cases h1) F₅ (all T₅ hheld.1) (XB.keeps K₅.stays) (TB.keeps K₅.stays) hob hobc fun A' Q' E' s'' es hq => ?_
  subst es
  refine lands_againW hheld fun h₆ hfl₆ hsm₆ => ?_
  refine wait fun cW hW => ?_
  obtain ⟨g₆, T₆, F₆, K₆⟩ := kts_ground K F hBG hfl₆.1 ((hsm.trans hsm₅).trans hsm₆)
  refine hW ?_
  clear hW cW
  exact hq h₆ g₆ T₆ F₆ (all T₆ hfl₆.1) K₆ (XB.keeps K₆.stays) (TB.keeps K₆.stays)
end

example : True := by w_top off; trivial
/-- from here on every run ends well -/
def Runs (P : Params) (wd : Int) (al rv : Bool) (Post PostE : MS → Prop) : MS → List Bool → Prop
  | M, [] => Post M
  | M, b :: bs => Fit wd M b ∧ ∀ res, StepR P wd al rv M b res → match res with
    | .go M' => Runs P wd al rv Post PostE M' bs
    | .skip M' => Post M'
    | .eof M' => PostE M'
theorem map_upd {x : Str} {v : Option Value} {m₁ M0 : Str → Option Value} (h : ∀ z, z ≠ x → m₁ z = M0 z) : (fun y => if y = x then v else m₁ y) = fun y => if y = x then v else M0 y := by
  funext z
  by_cases e : z = x
  · rw [if_pos e, if_pos e]
  · rw [if_neg e, if_neg e, h z e]
def maskAt (i : Nat) : Int := [128, 64, 32, 16, 8, 4, 2, 1].getD i 0
/-- an octet's bits, the highest first -/
def octBits (b : UInt8) : List Bool := (List.range 8).map fun i => decide (Builtin.bitAnd (b.toNat : Int) (maskAt i) ≠ 0)
theorem mask_at {t0 t1 t2 t3 t4 t5 t6 t7 : Tok} {i : Nat} {v : Value} (h : (#[Value.int 128 t0, .int 64 t1, .int 32 t2, .int 16 t3, .int 8 t4, .int 4 t5, .int 2 t6, .int 1 t7] : Array Value)[i]? = some v) :
   ∃ mk t, i < 8 ∧ v = .int mk t ∧ mk = maskAt i := by
  have hi : i < 8 := (Array.getElem?_eq_some_iff.mp h).1
  have : i = 0 ∨ i = 1 ∨ i = 2 ∨ i = 3 ∨ i = 4 ∨ i = 5 ∨ i = 6 ∨ i = 7 := by omega
  rcases this with rfl | rfl | rfl | rfl | rfl | rfl | rfl | rfl <;> exact ⟨_, _, by decide, (Option.some.inj h).symm, rfl⟩
/-- the state in which the generator sleeps behind its byte -/
inductive FeedI (w : World) (A : Around) (x dx : Nat) (wd : Int) (al rv : Bool) (Post : MS → Prop) (fs : List Addr) (g' : Heap) (L' : Addr) (rest : List (Addr × Obj)) (G it : Addr) (bb : Array UInt8) (tbt : Tok) (b0 : UInt8) (σ s' : Shared) : Prop where
  | intro : ∀ h tk gs g₂ mp M' mt' cells', s' = { σ with heap := h, toks := tk, gens := σ.gens.push gs } → Sleeps PG w A bb tbt b0 it gs → KBw.IsBytesIter h it bb tbt 1 → h.IsGen G σ.gens.size → h.NoLimit → KtsTurn fs g' g₂ → Fr g₂ L' h mp → News g₂ L' h (((mt', methodObj (.ref (Kd.fn (MS.k M'))) (.ref x)) :: cells') ++ rest) → MSAt w.params x dx wd al rv mt' M' cells' → OwnOff rest (mt' :: cells'.map (·.1)) → Post M' → (∀ p ∈ ((mt', methodObj (.ref (Kd.fn (MS.k M'))) (.ref x)) :: cells') ++ rest, p.1 ≠ it) → L' ≠ it → g₂.get? it = none → FeedI w A x dx wd al rv Post fs g' L' rest G it bb tbt b0 σ s'
theorem push_set {gens : Array GenState} {a b : GenState} : (gens.push a).setIfInBounds gens.size b = gens.push b := by
  apply Array.toList_inj.mp
  simp [List.set_append]
theorem rest_gen {g' h0 h1 h2 h3 : Heap} {L' : Addr} {m0 : Str → Option Value} {mt G : Addr} {gi : Nat} {o : Obj} {cells rest : List (Addr × Obj)} {b : Array UInt8} {t : Tok} (F0 : Fr g' L' h0 m0) (N0 : News g' L' h0 (((mt, o) :: cells) ++ rest)) (N3 : News g' L' h3 (((mt, o) :: cells) ++ rest)) (hr : OwnOff rest (mt :: cells.map (·.1)))
    (hgen : h1.IsGen G gi) (hG : h0.objs.size ≤ G) (hit : KBw.IsBytesIter h2 h1.objs.size b t 1) (hk2 : ∀ a o, h1.get? a = some o → h2.get? a = some o) (hs3 : Heap.SameBut L' h2 h3) :
    ∃ rest2, News g' L' h3 (((mt, o) :: cells) ++ rest2) ∧ OwnOff rest2 (mt :: cells.map (·.1)) ∧ (∀ p ∈ rest, p ∈ rest2 ∧ p.1 ≠ h1.objs.size) ∧ (L' ≠ h1.objs.size ∧ ∃ oi, (h1.objs.size, oi) ∈ rest2) ∧ (∀ gq Lq hq, News gq Lq hq rest2 → KBw.IsBytesIter hq h1.objs.size b t 1 ∧ hq.IsGen G gi) := by
  obtain ⟨oG, nm, qn, hoG, hcG, hdG, hsG⟩ := hgen
  obtain ⟨oi, hoi, hci, hdi⟩ := hit
  have hLG : L' < G := Nat.lt_of_lt_of_le F0.ns.lt hG
  have hGi : G < h1.objs.size := Heap.lt_size hoG
  have hLi : L' < h1.objs.size := Nat.lt_trans hLG hGi
  have hgn : ∀ b, L' ≤ b → g'.get? b = none := fun b hb => Heap.get?_none_of_le (Nat.le_trans F0.above hb)
  have hG3 : h3.get? G = some oG := (hs3.2 G (Nat.ne_of_gt hLG)).trans (hk2 _ _ hoG)
  have hi3 : h3.get? h1.objs.size = some oi := (hs3.2 _ (Nat.ne_of_gt hLi)).trans hoi
  have hlow : ∀ q ∈ ((mt, o) :: cells), q.1 < G := fun q hq => Nat.lt_of_lt_of_le (Heap.lt_size (N0 q (List.mem_append_left _ hq)).1) hG
  have hlow' : ∀ b ∈ mt :: cells.map (·.1), b < G := fun b hb => by
    obtain ⟨q, hq, rfl⟩ : ∃ q ∈ ((mt, o) :: cells), q.1 = b := by
      rcases List.mem_cons.mp hb with rfl | hb
      · exact ⟨_, .head _, rfl⟩
      · obtain ⟨q, hq, e⟩ := List.mem_map.mp hb
        exact ⟨q, .tail _ hq, e⟩
    exact hlow q hq
  refine ⟨(G, oG) :: (h1.objs.size, oi) :: rest, fun p hp => ?_, fun p hp b hb => ?_, fun p hp => ⟨.tail _ (.tail _ hp), Nat.ne_of_lt (Nat.lt_trans (Nat.lt_of_lt_of_le (Heap.lt_size (N0 p (List.mem_append_right _ hp)).1) hG) hGi)⟩, ⟨Nat.ne_of_lt hLi, oi, .tail _ (.head _)⟩, fun gq Lq hq Nq => ⟨⟨oi, (Nq _ (.tail _ (.head _))).1, hci, hdi⟩, ⟨oG, nm, qn, (Nq _ (.head _)).1, hcG, hdG, hsG⟩⟩⟩
  · rcases List.mem_append.mp hp with z | z
    · exact N3 p (List.mem_append_left _ z)
    · rcases List.mem_cons.mp z with rfl | z
      · exact ⟨hG3, Nat.ne_of_gt hLG, hgn _ (Nat.le_of_lt hLG)⟩
      · rcases List.mem_cons.mp z with rfl | z
        · exact ⟨hi3, Nat.ne_of_gt hLi, hgn _ (Nat.le_of_lt hLi)⟩
        · exact N3 p (List.mem_append_right _ z)
  · have := hlow' b hb
    rcases List.mem_cons.mp hp with rfl | z
    · exact Nat.ne_of_gt this
    · rcases List.mem_cons.mp z with rfl | z
      · exact Nat.ne_of_gt (Nat.lt_trans this hGi)
      · exact hr p z b hb
theorem drop_oct (b : UInt8) {i : Nat} (h : i < 8) : (octBits b).drop i = decide (Builtin.bitAnd (b.toNat : Int) (maskAt i) ≠ 0) :: (octBits b).drop (i + 1) := by
  have : i = 0 ∨ i = 1 ∨ i = 2 ∨ i = 3 ∨ i = 4 ∨ i = 5 ∨ i = 6 ∨ i = 7 := by omega
  rcases this with rfl | rfl | rfl | rfl | rfl | rfl | rfl | rfl <;> rfl
theorem feed_loop {w : World} {A : Around} {x dx : Nat} {wd : Int} {al rv : Bool} {Post : MS → Prop} {fs : List Addr} {g' : Heap} {L' : Addr} {rest : List (Addr × Obj)} {G : Addr} (it : Addr) (bb : Array UInt8) (tbt : Tok) (b0 : UInt8) (σ : Shared) {target : PySem.Expr} {body : List Stmt} {env : Env} {R : Result → Shared → Prop} {s : Shared}
   (hh : A.handled = none) (hroom : A.depth < recursionLimit)
   (turn1 : wpAny (model PG w) A (pyNext (.ref G)) (fun r s₁ => match r with
      | none => wpAny (model PG w) A (execs [] env) (fun f s₃ => R (.ok f) s₃) (notedBy (model PG w) A env fun e s' => R (.error e) s') s₁
      | some v => wpAny (model PG w) A (assign target env v) (fun _ s₂ => wpAny (model PG w) A (execs body env) (fun f s₃ => match f with
          | .ret v => R (.ok (.ret v)) s₃
          | .brk => R (.ok .next) s₃
          | _ => FeedI w A x dx wd al rv Post fs g' L' rest G it bb tbt b0 σ s₃) (notedBy (model PG w) A env fun e s' => R (.error e) s') s₂) (notedBy (model PG w) A env fun e s' => R (.error e) s') s₁) (notedBy (model PG w) A env fun e s' => R (.error e) s') s)
   (hend : ∀ h tk gs g₂ mp M' mt' cells', gs.bare = true → KtsTurn fs g' g₂ → Fr g₂ L' h mp → News g₂ L' h (((mt', methodObj (.ref (Kd.fn (MS.k M'))) (.ref x)) :: cells') ++ rest) → MSAt w.params x dx wd al rv mt' M' cells' → OwnOff rest (mt' :: cells'.map (·.1)) → Post M' →
      R (.ok .next) { σ with heap := h, toks := tk, gens := σ.gens.push gs })
   (ht : ∀ v, letOwnedTupleGo target (.ref G) v = pure () := by intro _; rfl) : codeAny (model PG w) A (.forLoop target (.ref G) body [] env) R s := by
  refine codeAny_forLoop (fun n s' => (n = 1 ∧ s' = s) ∨ (n = 0 ∧ FeedI w A x dx wd al rv Post fs g' L' rest G it bb tbt b0 σ s')) ?_ 1 (.inl ⟨rfl, rfl⟩) ht
  rintro n s₁ (⟨rfl, rfl⟩ | ⟨rfl, hI⟩)
  · refine wpAny_mono turn1 (fun r s₂ h₂ => ?_) fun _ _ e => e
    cases r with
    | none => exact h₂
    | some v =>
      refine wpAny_mono h₂ (fun _ s₃ h₃ => wpAny_mono h₃ (fun f s₄ h₄ => ?_) fun _ _ e => e) fun _ _ e => e
      cases f with
      | ret v => exact h₄
      | brk => exact h₄
      | next => exact ⟨0, Nat.zero_lt_one, .inr ⟨rfl, h₄⟩⟩
      | cont => exact ⟨0, Nat.zero_lt_one, .inr ⟨rfl, h₄⟩⟩
  · obtain ⟨h, tk, gs, g₂, mp, M', mt', cells', rfl, hS, hit, hg, hl, hT, F, N, hM, hO, hP, hoff, hLi, hgi⟩ := hI
    refine gen_next2 (a := G) (g := σ.gens.size) hh hl hroom hg (Array.getElem?_push_size ..) hS hit fun h' hex => ?_
    (try dsimp only)
    refine wpAny_execs_nil ?_
    have hk : ∀ b o, b ≠ it → h.get? b = some o → h'.get? b = some o := fun b o hb e => hex b o hb e
    have := hend h' tk .finished g₂ mp M' mt' cells' rfl hT ⟨F.ns.at' fun o e => hk _ o hLi e, fun b o e => hk b o (fun q => by rw [q, hgi] at e; cases e) (F.keep b o e), F.above⟩
      (fun p hp => ⟨hk _ _ (hoff p hp) (N p hp).1, (N p hp).2⟩) hM hO hP
    simpa [Shared.setGen, push_set] using this
theorem sub_rest {P : Addr × Obj → Prop} {cells rest rest2 : List (Addr × Obj)} (h : ∀ p ∈ rest, p ∈ rest2 ∧ P p) : ∀ p ∈ cells ++ rest, p ∈ cells ++ rest2 := fun p hp => by
  rcases List.mem_append.mp hp with z | z
  · exact List.mem_append_left _ z
  · exact List.mem_append_right _ (h p z).1
theorem own_sub {P : Addr × Obj → Prop} {l : List Addr} {rest rest2 : List (Addr × Obj)} (h : OwnOff rest2 l) (hs : ∀ p ∈ rest, p ∈ rest2 ∧ P p) : OwnOff rest l := fun p hp => h p (hs p hp).1
theorem off_it {mt it : Addr} {om oi : Obj} {cells rest rest2 : List (Addr × Obj)} (h : OwnOff rest2 (mt :: cells.map (·.1))) (hi : (it, oi) ∈ rest2) (hs : ∀ p ∈ rest, p ∈ rest2 ∧ p.1 ≠ it) : ∀ p ∈ ((mt, om) :: cells) ++ rest, p.1 ≠ it := fun p hp => by
  rcases List.mem_append.mp hp with z | z
  · rcases List.mem_cons.mp z with rfl | z
    · exact fun e => h _ hi _ (.head _) e.symm
    · exact fun e => h _ hi _ (.tail _ (List.mem_map_of_mem z)) e.symm
  · exact (hs p z).2
theorem flR_skip {P : Params} {wd : Int} {al rv : Bool} {S1 : DS} {n1 n2 : Option Int} {M7 : MS} (h : FlR P wd al rv S1 n1 n2 (.skip M7)) : M7.k = .md ∧ M7.T = modeT P := by
  rcases h with ⟨_, e⟩ | ⟨_, _, e⟩
  · cases e
  · cases e; exact ⟨rfl, rfl⟩
theorem stepR_skip {P : Params} {wd : Int} {al rv : Bool} {M M7 : MS} {b : Bool} (h : StepR P wd al rv M b (.skip M7)) : M7.k = .md ∧ M7.T = modeT P := by
  unfold StepR at h
  split at h
  · cases h
  · split at h
    · obtain ⟨S1, _, h⟩ := h; exact flR_skip h
    · cases h
    · exact flR_skip h
  · split at h
    · obtain ⟨S1, _, h⟩ := h; exact flR_skip h
    · split at h <;> cases h
  · exact h.elim
theorem own_four {x dx c r : Addr} {a1 a2 a3 a4 : Obj} {p1 p2 : Addr × Obj} {rest : List (Addr × Obj)} (h : ∀ p ∈ ([(x, a1), (dx, a2), (c, a3), (r, a4)] : List (Addr × Obj)), ∀ q ∈ p1 :: p2 :: rest, p.1 ≠ q.1) : OwnOff (p1 :: p2 :: rest) [x, dx, c, r] := fun p hp b hb e => by
  rcases List.mem_cons.mp hb with rfl | hb
  · exact h _ (.head _) p hp e.symm
  · rcases List.mem_cons.mp hb with rfl | hb
    · exact h _ (.tail _ (.head _)) p hp e.symm
    · rcases List.mem_cons.mp hb with rfl | hb
      · exact h _ (.tail _ (.tail _ (.head _))) p hp e.symm
      · exact h _ (.tail _ (.tail _ (.tail _ (.head _)))) p hp (e.trans (List.mem_singleton.mp hb)).symm
theorem st_eq {σ : Shared} {h : Heap} {tk : Nat} {g1 g2 : Array GenState} (e : g1 = g2) : ({ σ with heap := h, toks := tk, gens := g1 } : Shared) = { σ with heap := h, toks := tk, gens := g2 } := by rw [e]
theorem off_new {mt it : Addr} {om : Obj} {cells rest rest2 : List (Addr × Obj)} {oi : Obj} {p1 p2 : Addr × Obj} (h : ∀ p ∈ cells, ∀ q ∈ p1 :: p2 :: rest2, p.1 ≠ q.1) (hmt : ∀ q ∈ p1 :: p2 :: rest2, q.1 ≠ mt) (hs : ∀ p ∈ rest, p ∈ rest2 ∧ p.1 ≠ it) (hi : (it, oi) ∈ rest2) :
   OwnOff rest (mt :: cells.map (·.1)) ∧ ∀ p ∈ ((mt, om) :: cells) ++ rest, p.1 ≠ it := by
  refine ⟨fun p hp b hb e => ?_, fun p hp => ?_⟩
  · rcases List.mem_cons.mp hb with rfl | hb
    · exact hmt p (.tail _ (.tail _ (hs p hp).1)) e
    · obtain ⟨q, hq, rfl⟩ := List.mem_map.mp hb
      exact h q hq p (.tail _ (.tail _ (hs p hp).1)) e.symm
  · rcases List.mem_append.mp hp with z | z
    · rcases List.mem_cons.mp z with rfl | z
      · exact fun e => hmt _ (.tail _ (.tail _ hi)) e.symm
      · exact h p z _ (.tail _ (.tail _ hi))
    · exact (hs p z).2
theorem sub5 {P : Addr × Obj → Prop} {a b c d e p1 p2 : Addr × Obj} {rest rest2 : List (Addr × Obj)} (h : ∀ p ∈ rest, p ∈ rest2 ∧ P p) : ∀ p ∈ ([a, b, c, d, e] ++ rest), p ∈ a :: b :: c :: d :: e :: p1 :: p2 :: rest2 := fun p hp => by
  rcases List.mem_append.mp hp with z | z
  · exact List.mem_append_left (as := [a, b, c, d, e]) (p1 :: p2 :: rest2) z
  · exact List.mem_append_right [a, b, c, d, e] (.tail _ (.tail _ (h p z).1))
theorem sub5r {a b c d e p1 p2 : Addr × Obj} {rest2 : List (Addr × Obj)} : ∀ p ∈ rest2, p ∈ a :: b :: c :: d :: e :: p1 :: p2 :: rest2 := fun p hp => List.mem_append_right [a, b, c, d, e] (.tail _ (.tail _ hp))
theorem allLt_mem {d : Nat} : ∀ {l : List (Addr × Obj)}, AllLt d l → ∀ p ∈ l, p.1 < d
  | [], _, _, hp => nomatch hp
  | _ :: _, h, p, hp => by
    rcases List.mem_cons.mp hp with rfl | hp
    · exact h.1
    · exact allLt_mem h.2 p hp
theorem own_two {mt : Addr} {cells rest2 : List (Addr × Obj)} {p1 p2 : Addr × Obj} (h : ∀ p ∈ cells, ∀ q ∈ p1 :: p2 :: rest2, p.1 ≠ q.1) (hmt : ∀ q ∈ p1 :: p2 :: rest2, q.1 ≠ mt) : OwnOff rest2 (mt :: cells.map (·.1)) := fun p hp b hb e => by
  rcases List.mem_cons.mp hb with rfl | hb
  · exact hmt p (.tail _ (.tail _ hp)) e
  · obtain ⟨q, hq, rfl⟩ := List.mem_map.mp hb
    exact h q hq p (.tail _ (.tail _ hp)) e.symm
theorem sub4 {P : Addr × Obj → Prop} {cells : List (Addr × Obj)} {p1 p2 : Addr × Obj} {rest rest2 : List (Addr × Obj)} (h : ∀ p ∈ rest, p ∈ rest2 ∧ P p) : ∀ p ∈ cells ++ rest, p ∈ cells ++ p1 :: p2 :: rest2 := fun p hp => by
  rcases List.mem_append.mp hp with z | z
  · exact List.mem_append_left _ z
  · exact List.mem_append_right _ (.tail _ (.tail _ (h p z).1))

local macro_rules | `(tactic| ktr_step) => `(tactic| ((try k_fold); repeat' (first | (k_unfold; (try dsimp only)) | ((fail_if_success (first | tb_start | with_reducible first | show RaiseQ _ _ _ _ _ | show wpAny _ _ (leaving _ _) _ _ _ | show wpAny _ _ (call (Value.ref _) _) _ _ _ | show wpAny _ _ (exec (Stmt.For _ _ _ _ _) _) _ _ _ | show wpAny _ _ (exec (Stmt.Try _ _ _ _ _) _) _ _ _ | show LeaveS0 _ _ _ _ _ _ _ _)); tb_rel)); all_goals (try (dsimp only; k_unfold; (try dsimp only)))))

example : True := by w_top off; trivial
section
variable {w : World} {mean : ExcName → Option Value} {mg mb : Str → Option Value} {dp un : Nat} {gd : Option (List Code)} {cn : Str} {cs : Scope} {a : Addr} {ccd : Value} {A₀ : Around} {base h₀ : Heap} {L : Addr} {m : Str → Option Value} {s : Shared} {Q E : Value → Shared → Prop} {x dx : Nat} {wd : Int} {al rv : Bool}
theorem feed_tells {M : MS} {mt : Nat} {bb : Array UInt8} {tbt : Tok} {b0 : UInt8} {cells rest : List (Addr × Obj)} (C : Cx w mean mg mb cs [] A₀ base h₀ L m s.heap) (hM : MSAt w.params x dx wd al rv mt M cells) (N : News h₀ L s.heap ((mt, methodObj (.ref M.k.fn) (.ref x)) :: cells ++ rest)) (hxd : x ≠ dx)
 (hr : OwnOff rest (mt :: cells.map (·.1))) {Post PostE : MS → Prop} (hruns : Runs w.params wd al rv Post PostE M (octBits b0)) (hb0 : bb[0]? = some b0) (hb1 : bb[1]? = none) (hdp : dp + 9 < recursionLimit) (hun : un + 100 < cLine) (XB : (hd.heap_39 w.params).In base) (TB : Top hd.view_39 LS mean mg mb base)
 (hret : ∀ M' mt' cells' gs h' tk', Post M' → MSAt w.params x dx wd al rv mt' M' cells' → gs.bare = true → Fr h₀ L h' m → News h₀ L h' (((mt', methodObj (.ref (Kd.fn (MS.k M'))) (.ref x)) :: cells') ++ rest) → OwnOff rest (mt' :: cells'.map (·.1)) → Q .none { s with heap := h', toks := tk', gens := s.gens.push gs })
 (hretE : ∀ M' p0 tps acc' st' n1' n2' cells' gs h' tk', PostE M' → DecAt w.params x dx wd al rv (.int p0 tps) acc' st' n1' n2' M'.S cells' → OptV n1' M'.n1 → OptV n2' M'.n2 → OwnOff rest (cells'.map (·.1)) → gs.bare = true → Fr h₀ L h' m → News h₀ L h' (cells' ++ rest) → Q .none { s with heap := h', toks := tk', gens := s.gens.push gs }) :
 wpAny (model PG w) (ktrTop dp un gd cn cs L a ccd [] []) (call (.ref 424) [.ref x, .bytes bb tbt]) Q E s := by
  obtain ⟨B, F, X, T, hk⟩ := C
  (have hz : (PySem.Challenge.rw_ao0017_01 : OpenLaw) = PySem.Challenge.rw_ao0017_01 := rfl)
  (rename Frag.In _ _ => kX0)
  revert kX0 hz
  k_fill
  intro kX0 hz
  clear hz
  refine wpAny_call ?_
  with_unfolding_all
   refine' code_defS0 B F kX0 N T ?kA ?k6 ?k7 ?k8 ?k9 ?kB ?_ ?kK ?c2 ?c3 ?c4 ?c5
  case kA => exact rfl
  case kK => assumption
  case k6 => k_is
  case k7 => k_is
  case k8 => ktr_room
  case k9 => exact BindsTo.of_eq rfl
  case c5 => decide
  case kB => exact locs rfl
  case c2 => exact rfl
  case c3 => exact rfl
  case c4 => exact rfl
  intro g' L' h' FG' F' N' B' X' T' D'
  have F1 : Fr g' L' h' (fun y => List.lookup y [(Str.ofString "data", .bytes bb tbt), (Str.ofString "self", Value.ref x)]) := F'
  clear F'
  (try dsimp only)
  (try k_fold)
  ktr_step
  refine wpAny_For ?_
  ktr_step
  (rename Fr _ _ _ _ => lF)
  (rename News _ _ _ _ => lN)
  (try dsimp only)
  with_unfolding_all
   refine' call_gen lF X' T' ?k6 ?k7 ?k8 ?k9 ?kB ?c2 ?c3 ?c4 ?c5 ?_
  case k6 => k_is
  case k7 => k_is
  case k8 => ktr_room
  case k9 => exact BindsTo.of_eq rfl
  case kB => exact locs rfl
  case c2 => exact rfl
  case c3 => exact rfl
  case c4 => exact rfl
  case c5 => decide
  intro h1 tk1 hk1 hns1 hgen1 hlim1
  refine wpAny_pyIter_gen hgen1 ?_
  have F1 : Fr g' L' h1 _ := ⟨lF.ns.keeps hk1, fun b o e => hk1 b o (lF.keep b o e), lF.above⟩
  have N1 : News g' L' h1 _ := fun p hp => ⟨hk1 _ _ (lN p hp).1, (lN p hp).2⟩
  refine feed_loop (x := x) (dx := dx) (wd := wd) (al := al) (rv := rv) (Post := Post) (fs := List.filterMap (·.frame) [envOf cn cs L a ccd]) (g' := g') (L' := L') (rest := rest) h1.objs.size bb tbt b0 s rfl (by ktr_room) ?turn ?hend
  case hend =>
    intro h9 tk9 gs9 g9 mp9 M9 mt9 cells9 hb9 hT9 F9 N9 hM9 hO9 hP9
    (try dsimp only)
    refine wpAny_execs_nil ?_
    (try dsimp only)
    exact leaveS0_ F9 N9 hT9 fun kF kN => hret M9 mt9 cells9 gs9 h9 tk9 hP9 hM9 hb9 kF kN hO9
  case turn =>
    refine gen_next1 (b := bb) (t := tbt) ?_ ?_ ?_ ?_ (Array.getElem?_push_size ..) ?_ hb0 hb1 ?_ ?_
    case refine_1 => rfl
    case refine_2 => exact hlim1
    case refine_3 => ktr_room
    case refine_4 => exact hgen1
    case refine_6 => rfl
    · intro A' E' Q' hq
      exact gen_name (s := Shared.setGen _ _ _) hns1 rfl rfl rfl (by decide) hq
    · intro h2 gs2 hk2 hit2 hS2
      have F2 : Fr g' L' h2 _ := ⟨F1.ns.keeps hk2, fun b o e => hk2 b o (F1.keep b o e), F1.above⟩
      have N2 : News g' L' h2 _ := fun p hp => ⟨hk2 _ _ (N1 p hp).1, (N1 p hp).2⟩
      (try dsimp only)
      refine wpAny_assign_Name (wpAny_storeName_local rfl F2.ns (fun h3 hn3 hs3 => ?_) rfl)
      have F3 := F2.set hn3 hs3
      have N3 := N2.set hs3

      obtain ⟨rest2, N4, hr2, hrsub, ⟨hrL, oiI, hiI⟩, hrgen⟩ := rest_gen lF lN N3 hr hgen1 (Nat.le_add_right _ _) hit2 hk2 hs3
      clear N3
      clear F2 N2 F1 N1 lF lN hn3
      obtain ⟨p0, tps, st, n1, n2, f, hD, hT, hn1, hn2, hoff⟩ := hM
      obtain ⟨c, r, n, nc, nr, k, vc, vr, twd, ty, tcp, tcol, tb, rfl, hxc, hdc, hxr, hdr, hcr, hic, hir⟩ := hD
      (try dsimp only)
      ktr_step
      walk1
      ktr_step
      refine wpAny_For ?_
      ktr_step
      (rename Fr _ _ _ _ => lF)
      (rename News _ _ _ _ => lN)
      rename_i l1
      with_unfolding_all
       refine' for_tup (J := fun i m₁ nx => (∃ tb, ∀ z, z ≠ Str.ofString "m" → m₁ z = if z = Str.ofString "byte" then some (.int (b0.toNat : Int) tb) else List.lookup z [(Str.ofString "data", Value.bytes bb tbt), (Str.ofString "self", Value.ref x)]) ∧ ∃ M' mt' cells', nx = ((mt', methodObj (.ref M'.k.fn) (.ref x)) :: cells') ++ rest2 ∧ MSAt w.params x dx wd al rv mt' M' cells' ∧ OwnOff rest2 (mt' :: cells'.map (·.1)) ∧ Runs w.params wd al rv Post PostE M' ((octBits b0).drop i)) ?kh lF lN ?kc ?kd ?koff ?kx ?kp ?kE ?k0 ?lturn ?ldone
      case kh => rfl
      case kc => rfl
      case kd => exact rfl
      case koff => exact fun p hp => Nat.ne_of_lt (l1 p hp)
      case kx => rfl
      case kp => rfl
      case kE => passes_own
      case k0 => exact ⟨⟨_, fun z _ => rfl⟩, M, mt, _, rfl, ⟨p0, tps, st, n1, n2, f, ⟨c, r, n, nc, nr, k, vc, vr, twd, ty, tcp, tcol, tb, rfl, hxc, hdc, hxr, hdr, hcr, hic, hir⟩, hT, hn1, hn2, hoff⟩, hr2, hruns⟩
      case lturn =>
        clear lF lN l1 hic hir hT hn1 hn2 hoff hr
        intro i v m₁ nx hh tk it o hv hZ9 hitD hoff2 F5 N5
        refine wait fun cW hW => ?_
        obtain ⟨⟨tb2, hm⟩, M', mt', cells', rfl, hM', hr', hrun⟩ := hZ9
        refine hW ?_
        clear hW cW
        have F6 := fr_map F5 (map_upd hm)
        clear F5 hm
        obtain ⟨mk, tm, hi8, rfl, hbit⟩ := mask_at hv
        refine wait fun cW hW => ?_
        obtain ⟨p0', tps', st', n1', n2', f', hD', hT', hn1', hn2', hoff'⟩ := hM'
        refine hW ?_
        clear hW cW
        refine wait fun cW hW => ?_
        obtain ⟨c', r', n', nc', nr', k', vc', vr', twd', ty', tcp', tcol', tb', rfl, hxc', hdc', hxr', hdr', hcr', hic', hir'⟩ := hD'
        refine hW ?_
        clear hW cW
        (try dsimp only)
        ktr_step
        (rename Fr _ _ _ _ => lF)
        (rename News _ _ _ _ => lN)
        have hM2 : MSAt w.params x dx wd al rv mt' M' _ := ⟨p0', tps', st', n1', n2', f', ⟨c', r', n', nc', nr', k', vc', vr', twd', ty', tcp', tcol', tb', rfl, hxc', hdc', hxr', hdr', hcr', hic', hir'⟩, hT', hn1', hn2', hoff'⟩
        have Nb := news_sub (new := [(mt', _), (x, _), (dx, _), (c', _), (r', _)]) lN (fun p hp => .tail _ (.tail _ (List.mem_append_left _ hp)))
        have Nr := news_sub (new := (it, o) :: (_, _) :: rest2) lN (fun p hp => by
          rcases List.mem_cons.mp hp with rfl | hp
          · exact .head _
          · rcases List.mem_cons.mp hp with rfl | hp
            · exact .tail _ (.head _)
            · exact .tail _ (.tail _ (List.mem_append_right _ hp)))
        rw [drop_oct b0 hi8] at hrun
        obtain ⟨hfit, hstep⟩ := hrun
        subst hbit
        refine bit_tells (dp := dp + 1) (un := un + 3) ⟨B', lF, X', T', rfl⟩ hM2 Nb hxd (bit := decide (Builtin.bitAnd (b0.toNat : Int) (maskAt i) ≠ 0)) (by split <;> simp_all) hfit (by omega) (by omega) ?_ ?_
        · intro M2 mt2 cells2 h7 tk7 hs7 hM7 D7
          have F7 := fr_aft lF Nb (fun _ h => h) D7
          have N7 := news_tup (news_rest Nr (off_tup hoff2 hr') D7) (news_aft lF Nb (fun _ h => h) D7)
          have H7 := new_off Nr (off_tup hoff2 hr') D7
          obtain ⟨ho1, ho2⟩ := own_new H7 (fun p hp => hoff2 p (List.mem_append_right _ hp))
          (try dsimp only)
          ktr_step
          exact ⟨_, _, _, _, rfl, F7, N7, ho2, ⟨tb2, fun z hz => if_neg hz⟩, M2, mt2, cells2, rfl, hM7, ho1, hstep _ hs7⟩
        · intro C7 res7 M7 p7 tps7 acc7 st7 n17 n27 cells7 e7 h7 tk7 hs7 hC7 hD7 hn17 hn27 T7
          (try dsimp only)
          refine caught_stage T7 B' XB TB D' Nr (off_tup hoff2 hr') ?_
          intro h8 g8 ob hap F8 N8 X8 T8 hob hobc land
          clear lF lN
          refine wait fun cW hW => ?_
          obtain ⟨c7, r7, n7, nc7, nr7, k7, vc7, vr7, twd7, ty7, tcp7, tcol7, tb7, rfl, hxc7, hdc7, hxr7, hdr7, hcr7, hic7, hir7⟩ := hD7
          refine hW ?_
          clear hW cW
          rcases hC7 with ⟨rfl, rfl⟩ | ⟨rfl, rfl⟩
          · refine wpAny_handleBy_cons (codeAny_handlers_test ?_) (by intro q; cases q)
            (try dsimp only)
            ktr_step
            refine match_same (K := hd.heap_39 w.params) (X8.keeps F8.keep) (exc_skip X8) hob hobc ?_
            (try dsimp only)
            refine codeAny_handlers_suite ?_
            refine land _ _ _ _ rfl ?_
            intro h9 g9 T9 F9 N9 B9 X9 P9
            (try dsimp only)
            (try simp only [List.cons_append, List.nil_append] at N9)
            clear N8 F8
            have hof9 := own_four hap
            generalize hown9 : ((it, o) :: (_, _) :: rest2) = own9 at N9 hof9
            ktr_step
            (try dsimp only)
            (rename Fr _ _ _ _ => lF)
            (rename News _ _ _ _ => lN)
            subst hown9
            have hpost := hstep _ hs7
            obtain ⟨hk7, hT7⟩ := stepR_skip hs7
            obtain ⟨kd7, Tr7, S7, j17, j27⟩ := M7
            dsimp only at hk7 hT7 hn17 hn27 hpost hic7 hir7
            subst hk7 hT7
            obtain ⟨z1, z2, z3, z4, z5⟩ := ‹x < _ ∧ dx < _ ∧ c7 < _ ∧ r7 < _ ∧ AllLt _ _›
            obtain ⟨q1, q2⟩ := hrgen _ _ _ (news_sub lN sub5r)
            have hon := own_two hap (fun q hq => Nat.ne_of_lt (allLt_mem z5 q hq))
            refine ⟨_, _, gs2, g9, _, ⟨.md, modeT w.params, S7, j17, j27⟩, _, _, st_eq push_set, hS2, q1, q2, P9.nolimit.keeps lF.keep, T9, lF, news_sub lN (sub5 hrsub), ⟨p7, tps7, _, n17, n27, 40, ⟨c7, r7, _, nc7, nr7, _, vc7, vr7, twd7, ty7, tcp7, tcol7, tb7, rfl, hxc7, hdc7, hxr7, hdr7, hcr7, hic7, hir7⟩, read_mode _, hn17, hn27, off4L (Nat.ne_of_lt z1) (Nat.ne_of_lt z2) (Nat.ne_of_lt z3) (Nat.ne_of_lt z4)⟩, ?_, hpost, ?_, hrL, ?_⟩
            · exact own_sub (rest2 := rest2) hon hrsub
            · exact off_it (rest2 := rest2) hon hiI hrsub
            · exact (lN (h1.objs.size, oiI) (sub5r _ hiI)).2.2
          · refine wpAny_handleBy_cons (codeAny_handlers_test ?_) (by intro q; cases q)
            (try dsimp only)
            ktr_step
            refine match_other (K := hd.heap_39 w.params) (X8.keeps F8.keep) (by decide) rfl (exc_eofb X8) (exc_skip X8) hob hobc ?_
            (try dsimp only)
            refine wpAny_handleBy_cons (codeAny_handlers_test ?_) (by intro q; cases q)
            (try dsimp only)
            ktr_step
            refine match_same (K := hd.heap_39 w.params) (X8.keeps F8.keep) (exc_eofb X8) hob hobc ?_
            (try dsimp only)
            refine codeAny_handlers_suite ?_
            refine land _ _ _ _ rfl ?_
            intro h9 g9 T9 F9 N9 B9 X9 P9
            (try dsimp only)
            clear N8 F8
            ktr_step
            (try dsimp only)
            (rename Fr _ _ _ _ => lF)
            (rename News _ _ _ _ => lN)
            have hpost := hstep _ hs7
            refine leaveS0_ lF (news_sub (new := _ ++ rest) lN (sub4 hrsub)) T9 fun kF kN => ?_
            (try dsimp only)
            have hfin := hretE M7 p7 tps7 _ _ _ _ _ gs2 h9 tk hpost ⟨c7, r7, n7, nc7, nr7, k7, vc7, vr7, twd7, ty7, tcp7, tcol7, tb7, rfl, hxc7, hdc7, hxr7, hdr7, hcr7, hic7, hir7⟩ hn17 hn27 (fun p hp b hb => own_four hap p (.tail _ (.tail _ (hrsub p hp).1)) b hb) hS2.1 kF kN
            simpa [Shared.setGen, push_set] using hfin
      case ldone =>
        intro h6 tk6 m6 nx6 hZ4 F6 N6
        refine wait fun cW hW => ?_
        obtain ⟨⟨tb2, hm⟩, M', mt', cells', rfl, hM', hr', hrun⟩ := hZ4
        refine hW ?_
        clear hW cW
        (try dsimp only)
        ktr_step
        (try dsimp only)
        have hgn : g'.get? h1.objs.size = none := (N6 (h1.objs.size, oiI) (List.mem_append_right _ hiI)).2.2
        obtain ⟨q1, q2⟩ := hrgen _ _ _ (news_sub N6 (fun p hp => List.mem_append_right _ hp))
        refine ⟨h6, tk6, gs2, g', m6, M', mt', cells', ?_, hS2, q1, q2, T'.nolimit.keeps F6.keep, KtsTurn.refl, F6, news_sub N6 (sub_rest hrsub), hM', own_sub hr' hrsub, hrun, off_it hr' hiI hrsub, hrL, hgn⟩
        simp [Shared.setGen, push_set]
end

example : True := by w_top off; trivial
section
variable {w : World} {mean : ExcName → Option Value} {mg mb : Str → Option Value} {dp un : Nat} {gd : Option (List Code)} {cn : Str} {cs : Scope} {a : Addr} {ccd : Value} {cl : List (Str × Addr)} {outer : List Env} {A₀ : Around} {base h₀ : Heap} {L : Addr} {m : Str → Option Value} {s : Shared} {Q E : Value → Shared → Prop}
variable {x dx : Nat} {wd : Int} {al rv : Bool} {pos acc st : Value} {n1 n2 : Option Value} {S : DS} {cells : List (Addr × Obj)}
theorem close_tells (C : Cx w mean mg mb cs outer A₀ base h₀ L m s.heap) (hD : DecAt w.params x dx wd al rv pos acc st n1 n2 S cells) (N : News h₀ L s.heap cells) (hxd : x ≠ dx) (hdp : dp + 5 < recursionLimit) (hun : un + 60 < cLine)
 (hret : ∀ tb h' tk', Aft s.heap h' (cells.map (·.1)) cells → Q (.bytes S.buf tb) { s with heap := h', toks := tk' }) :
 wpAny (model PG w) (ktrTop dp un gd cn cs L a ccd cl outer) (call (.ref 549) [.ref x]) Q E s := by
  refine wait fun cW hW => ?_
  obtain ⟨B, F, X, T, hk⟩ := C
  refine hW ?_
  clear hW cW
  refine wait fun cW hW => ?_
  obtain ⟨c, r, n, nc, nr, k, vc, vr, twd, ty, tcp, tcol, tb, rfl, hxc, hdc, hxr, hdr, hcr, hic, hir⟩ := hD
  refine hW ?_
  clear hW cW
  cell_step
  intro g' L' h' FG' F' N' B' X' T' G'
  have F1 : Fr g' L' h' (fun y => List.lookup y [(Str.ofString "self", Value.ref x)]) := F'
  clear F'
  (try dsimp only)
  (try k_fold)
  ktr_step
  (rename Fr _ _ _ _ => lF)
  (rename News _ _ _ _ => lN)
  refine leaveK_ lF lN fun kF kN => ?_
  exact hret _ _ _ (aft_of N G' lF lN)
theorem reset_tells {j1 j2 : Option Int} (C : Cx w mean mg mb cs outer A₀ base h₀ L m s.heap) {p0 : Int} {tps : Tok} (hD : DecAt w.params x dx wd al rv (.int p0 tps) acc st n1 n2 S cells) (hn1 : OptV n1 j1) (hn2 : OptV n2 j2) (N : News h₀ L s.heap cells) (hxd : x ≠ dx) (hw0 : 1 ≤ wd) (hw : wd ≤ 12) (hdp : dp + 5 < recursionLimit) (hun : un + 60 < cLine)
 (hret : ∀ cells' mt' h' tk', MSAt w.params x dx wd al rv mt' ⟨.md, modeT w.params, { cur := List.replicate wd.toNat 1, rf := List.replicate wd.toNat 1, cp := -1, col := 1, y := 0, buf := S.buf }, j1, j2⟩ cells' → Aft s.heap h' (cells.map (·.1)) ((mt', methodObj (.ref 431) (.ref x)) :: cells') → Q .none { s with heap := h', toks := tk' }) :
 wpAny (model PG w) (ktrTop dp un gd cn cs L a ccd cl outer) (call (.ref 473) [.ref x]) Q E s := by
  refine wait fun cW hW => ?_
  obtain ⟨B, F, X, T, hk⟩ := C
  refine hW ?_
  clear hW cW
  refine wait fun cW hW => ?_
  obtain ⟨c, r, n, nc, nr, k, vc, vr, twd, ty, tcp, tcol, tb, rfl, hxc, hdc, hxr, hdr, hcr, hic, hir⟩ := hD
  refine hW ?_
  clear hW cW
  cell_step
  intro g' L' h' FG' F' N' B' X' T' G'
  have F1 : Fr g' L' h' (fun y => List.lookup y [(Str.ofString "self", Value.ref x)]) := F'
  clear F'
  (try dsimp only)
  (try k_fold)
  ktr_step
  (rename Fr _ _ _ _ => lF)
  (rename News _ _ _ _ => lN)
  (try dsimp only)
  have NE : ∀ cV : Prop, (∀ (c0 l0 : Nat) (y0 : Tok) (v0 : List Value), IntsAre v0 (List.replicate wd.toNat 1) → News g' L' _ ([(x, instObj 557 dx), (dx, dictOf (decEs w.params k (.int p0 tps) (.int wd twd) (.bool al) (.int 0 y0) (.ref c0) (.ref r) (.int S.cp tcp) (.int S.col tcol) acc st (.bool rv) (.bytes S.buf tb) n1 n2) n), (c0, listOf v0.toArray 0)]) → x ≠ c0 → dx ≠ c0 → cV) → cV := fun cV kV => kV _ 0 _ _ (ints_flat _ _ _) (news_sub lN (by k_allIn)) (fun e => absurd (show (_ : Nat) = _ from e) (by omega)) (fun e => absurd (show (_ : Nat) = _ from e) (by omega))
  refine NE _ ?_
  clear NE
  intro c0 _ y0 v0 hi0 N3 hxc0 hdc0
  refine reset_line_tells (dp := dp + 1) (un := un + 3) x dx c0 r (listOf v0.toArray 0) n k _ _ _ _ _ _ _ _ _ _ _ wd _ ⟨B', lF, X', T', rfl⟩ N3 hxd hxc0 hdc0 hw0 hw (by omega) (by omega) ?_
  intro c' vs' t1 t2 n' h3 tk3 hi3 D g1 g2 g3
  have F2 := fr_aft lF N3 (fun _ h => h) D
  have N2 := news_aft lF N3 (fun _ h => h) D
  clear lF lN N3 D
  (try dsimp only)
  ktr_step
  (rename Fr _ _ _ _ => lF)
  (rename News _ _ _ _ => lN)
  (try dsimp only)
  refine leaveK_ lF lN fun kF kN => ?_
  have hN := news_sub (new := (_, methodObj (.ref 431) (.ref x)) :: [(x, _), (dx, _), (c', _), (c0, _)]) lN (by k_allIn)
  exact hret _ _ _ _ ⟨p0, tps, _, n1, n2, 40, ⟨c', c0, _, _, _, _, vs', v0, twd, _, _, _, tb, rfl, g1, g2, hxc0, hdc0, fun e => g3 e.symm, hi3, hi0⟩, read_mode _, hn1, hn2, off4L (fun e => absurd (show (_ : Nat) = _ from e) (by omega)) (fun e => absurd (show (_ : Nat) = _ from e) (by omega)) (fun e => absurd (show (_ : Nat) = _ from e) (by omega)) (fun e => absurd (show (_ : Nat) = _ from e) (by omega))⟩ (aft_of N G' lF hN)
end

example : True := by w_top off; trivial
inductive GoNext (g : Heap) (L : Addr) (it : Addr) (o : Obj) (fix : List (Addr × Obj)) (J : Nat → (Str → Option Value) → List (Addr × Obj) → Array GenState → Prop) (i : Nat) (d : Drawn) (os : OsState) (s₂ : Shared) : Prop where
  | intro : ∀ h' tk' gs' m₂ nx', s₂ = ⟨h', gs', d, tk', os⟩ → Fr g L h' m₂ → News g L h' ((it, o) :: (fix ++ nx')) → (∀ p ∈ nx', p.1 ≠ it) → J i m₂ nx' gs' → GoNext g L it o fix J i d os s₂
/-- what a turn of a loop leaves: the cells may change their places, the generators may grow -/
def GoPost (g : Heap) (L : Addr) (it : Addr) (o : Obj) (fix : List (Addr × Obj)) (J : Nat → (Str → Option Value) → List (Addr × Obj) → Array GenState → Prop) (i : Nat) (s : Shared) (Q : Flow → Shared → Prop) (f : Flow) (s₂ : Shared) : Prop :=
  match f with
  | .ret v => Q (.ret v) s₂
  | .brk => Q .next s₂
  | _ => GoNext g L it o fix J i s.drawn s.os s₂
section
variable {prog : Program} {w : World} {A : Around} {E : Value → Shared → Prop} {s : Shared} {env : Env} {g : Heap} {x : Str} {px : Pos} {body : List Stmt} {Q : Flow → Shared → Prop}
theorem go_loop {I : Addr} {fix nx0 : List (Addr × Obj)} {n : Nat} {P : Nat → Value → Prop} {St : Nat → Heap → Prop} {m : Str → Option Value} (W : Walks prog w A I (I :: fix.map (·.1)) [I] n P St) (hx : env.kindOf x = some .local) (hp : (env.scope.kind == .class || (env.scope.kind == .module && env.locals != env.globals)) = false) (hE : PassesOwn (model prog w) A env E)
   (F : Fr g env.locals s.heap m) (N : News g env.locals s.heap (fix ++ nx0)) (hI : ∀ i h, St i h → ∃ o, h.get? I = some o) (hIL : env.locals ≠ I) (hIg : g.get? I = none) (hIf : ∀ p ∈ fix, p.1 ≠ I) (hIn : ∀ p ∈ nx0, p.1 ≠ I) (hst : St 0 s.heap)
   (J : Nat → (Str → Option Value) → List (Addr × Obj) → Array GenState → Prop) (h0 : J 0 m nx0 s.gens)
   (turn : ∀ i v m₁ nx h tk gs o, i < n → P i v → J i m₁ nx gs → (∀ p ∈ nx, p.1 ≠ I) → Fr g env.locals h (fun y => if y = x then some v else m₁ y) → News g env.locals h ((I, o) :: (fix ++ nx)) →
     wpAny (model prog w) A (execs body env) (GoPost g env.locals I o fix J (i + 1) s Q) E { s with heap := h, toks := tk, gens := gs })
   (done : ∀ h' tk' gs' m₂ nx', J n m₂ nx' gs' → Fr g env.locals h' m₂ → News g env.locals h' (fix ++ nx') → Q .next { s with heap := h', toks := tk', gens := gs' }) :
   codeAny (model prog w) A (.forLoop (.Name x px) (.ref I) body [] env) (fun r s' => match r with | .ok f => Q f s' | .error e => cameBackBy (model prog w) A env E e s') s := by
  have off : ∀ nx : List (Addr × Obj), (∀ p ∈ nx, p.1 ≠ I) → ∀ p ∈ fix ++ nx, p.1 ≠ I := fun nx hn p hp => by
    rcases List.mem_append.mp hp with z | z
    · exact hIf p z
    · exact hn p z
  refine codeAny_forLoop
    (fun k s' => ∃ h' tk gs m' nx' i o, s' = { s with heap := h', toks := tk, gens := gs } ∧ St i h' ∧ h'.get? I = some o ∧ Fr g env.locals h' m' ∧ News g env.locals h' (fix ++ nx') ∧ (∀ p ∈ nx', p.1 ≠ I) ∧ J i m' nx' gs ∧ i ≤ n ∧ k = n + 1 - i) ?_ (n + 1)
    (by obtain ⟨o, ho⟩ := hI _ _ hst; exact ⟨s.heap, s.toks, s.gens, m, nx0, 0, o, rfl, hst, ho, F, N, hIn, h0, Nat.zero_le _, rfl⟩)
  intro k s' hZ2
  refine wait fun cW hW => ?_
  obtain ⟨h', tk, gs, m', nx', i, o, rfl, hst', hIo, F', N', hnw', hJ, hi, rfl⟩ := hZ2
  refine hW ?_
  clear hW cW
  have next : ∀ h₁ : Heap, (∀ b o, b ∉ [I] → h'.get? b = some o → h₁.get? b = some o) → Fr g env.locals h₁ m' ∧ News g env.locals h₁ (fix ++ nx') := fun h₁ hk₁ =>
    ⟨⟨F'.ns.at' fun o e => hk₁ _ o (fun q => hIL (List.mem_singleton.mp q)) e, fun b o e => hk₁ b o (fun q => by rw [List.mem_singleton.mp q, hIg] at e; cases e) (F'.keep b o e), F'.above⟩,
     fun p hp => ⟨hk₁ _ _ (fun q => off nx' hnw' p hp (List.mem_singleton.mp q)) (N' p hp).1, (N' p hp).2⟩⟩
  by_cases hlt : i < n
  · refine W.item i _ _ _ hlt hst' fun v h₁ tk₁ hP hst₁ hk₁ => ?_
    obtain ⟨F₁, N₁⟩ := next h₁ hk₁
    refine wpAny_assign_Name (wpAny_storeName_local hx F₁.ns (fun h₂ hn₂ hs₂ => ?_) hp)
    have F₂ := F₁.set hn₂ hs₂
    have hst₂ : St (i + 1) h₂ := W.frame _ _ _ hst₁ fun b hb o e => (hs₂.2 b fun q => by
      rcases List.mem_cons.mp hb with z | z
      · exact hIL (q ▸ z)
      · refine wait fun cW hW => ?_
        obtain ⟨p, hp, e⟩ := List.mem_map.mp z
        refine hW ?_
        clear hW cW
        exact (N' p (List.mem_append_left _ hp)).2.1 (e.trans q)).trans e
    have hIo2 := hI _ _ hst₂
    obtain ⟨o2, hIo2⟩ := hIo2
    have N₂ : News g env.locals h₂ ((I, o2) :: (fix ++ nx')) := fun p hp => by
      rcases List.mem_cons.mp hp with rfl | hp
      · exact ⟨hIo2, Ne.symm hIL, hIg⟩
      · exact (N₁.set hs₂) p hp
    have key : ∀ s₃, GoNext g env.locals I o2 fix J (i + 1) s.drawn s.os s₃ →
        ∃ k', k' < n + 1 - i ∧ ∃ h' tk gs m' nx' i o, s₃ = { s with heap := h', toks := tk, gens := gs } ∧ St i h' ∧ h'.get? I = some o ∧ Fr g env.locals h' m' ∧ News g env.locals h' (fix ++ nx') ∧ (∀ p ∈ nx', p.1 ≠ I) ∧ J i m' nx' gs ∧ i ≤ n ∧ k' = n + 1 - i := by
      intro s₃ hZ1
      refine wait fun cW hW => ?_
      obtain ⟨h3, tk3, gs3, m3, nx3, rfl, F3, N3, off3, hJ3⟩ := hZ1
      refine hW ?_
      clear hW cW
      refine ⟨n + 1 - (i + 1), sub_step (by assumption), h3, tk3, gs3, m3, nx3, i + 1, o2, rfl, ?_, (N3 _ (.head _)).1, F3, fun p hp => N3 p (.tail _ hp), off3, hJ3, hlt, rfl⟩
      refine W.frame _ _ _ hst₂ fun b hb o e => ?_
      rcases List.mem_cons.mp hb with z | z
      · subst z
        rw [hIo2] at e
        cases e
        exact (N3 _ (.head _)).1
      · refine wait fun cW hW => ?_
        obtain ⟨p, hp, rfl⟩ := List.mem_map.mp z
        refine hW ?_
        clear hW cW
        have a1 := (N₂ p (.tail _ (List.mem_append_left _ hp))).1
        rw [a1] at e
        cases e
        exact (N3 p (.tail _ (List.mem_append_left _ hp))).1
    refine wpAny_mono (wpAny_passesOwn hE (turn i v m' nx' h₂ _ gs o2 hlt hP hJ hnw' F₂ N₂)) (fun f s₃ h₃ => ?_) fun _ _ e => e
    cases f with
    | ret v => exact h₃
    | brk => exact h₃
    | cont => exact key s₃ h₃
    | next => exact key s₃ h₃
  · have hin : i = n := by omega
    subst hin
    refine W.done _ _ _ hst' fun h₁ tk₁ hk₁ => wpAny_execs_nil ?_
    obtain ⟨F₁, N₁⟩ := next h₁ hk₁
    exact done h₁ tk₁ gs m' nx' hJ F₁ N₁
theorem go_list {D : Addr} {lst : Obj} {vs : Array Value} {n0 : Nat} {m : Str → Option Value} {nx0 : List (Addr × Obj)} (hh : A.handled = none) (F : Fr g env.locals s.heap m) (N : News g env.locals s.heap ((D, lst) :: nx0)) (hcls : lst.cls = .type "list") (hdat : lst.data = .seq vs n0)
   (hx : env.kindOf x = some .local) (hp : (env.scope.kind == .class || (env.scope.kind == .module && env.locals != env.globals)) = false) (hE : PassesOwn (model prog w) A env E)
   (J : Nat → (Str → Option Value) → List (Addr × Obj) → Array GenState → Prop) (h0 : J 0 m nx0 s.gens)
   (turn : ∀ i v m₁ nx h tk gs it o, vs[i]? = some v → J i m₁ nx gs → it ≠ D → (∀ p ∈ nx, p.1 ≠ it) → Fr g env.locals h (fun y => if y = x then some v else m₁ y) → News g env.locals h ((it, o) :: ([(D, lst)] ++ nx)) →
     wpAny (model prog w) A (execs body env) (GoPost g env.locals it o [(D, lst)] J (i + 1) s Q) E { s with heap := h, toks := tk, gens := gs })
   (done : ∀ h' tk' gs' m₂ nx', J vs.size m₂ nx' gs' → Fr g env.locals h' m₂ → News g env.locals h' ((D, lst) :: nx') → Q .next { s with heap := h', toks := tk', gens := gs' }) :
   wpAny (model prog w) A (pyIter (.ref D)) (fun it s₂ => codeAny (model prog w) A (.forLoop (.Name x px) it body [] env) (fun r s' => match r with | .ok f => Q f s' | .error e => cameBackBy (model prog w) A env E e s') s₂) E s := by
  have hD := N (D, lst) (.head _)
  have hDl : D < s.heap.objs.size := Heap.lt_size hD.1
  have hl : s.heap.IsList D vs := ⟨lst, hD.1, hcls, n0, hdat⟩
  refine wpAny_pyIter_list hl ?_
  have W := Walks.list (prog := prog) (w := w) hh s.heap.objs.size D (Nat.ne_of_lt hDl) vs
  refine go_loop (s := { s with heap := s.heap.push _ }) (fix := [(D, lst)]) (nx0 := nx0) (Q := Q) W hx hp hE (F.push _) (fun p hp => ⟨Heap.get?_push_of_some _ (N p hp).1, (N p hp).2⟩) (fun i h st => by obtain ⟨o, ho, _⟩ := st.1; exact ⟨o, ho⟩) (Nat.ne_of_lt F.ns.lt) (Heap.get?_none_of_le (Nat.le_trans F.above (Nat.le_of_lt F.ns.lt))) (fun p hp => by rw [List.mem_singleton.mp hp]; exact Nat.ne_of_lt hDl) (fun p hp => Nat.ne_of_lt (Heap.lt_size (N p (.tail _ hp)).1)) ⟨⟨_, Heap.get?_push_size _ rfl, rfl, rfl⟩, ⟨lst, Heap.get?_push_of_some _ hD.1, hcls, n0, hdat⟩⟩ J h0 ?_ ?_
  · intro i v m₁ nx h tk gs o hi hP hJ hoff F₁ N₁
    exact turn i v m₁ nx h tk gs _ o hP hJ (Nat.ne_of_gt hDl) hoff F₁ N₁
  · intro h' tk' gs' m₂ nx' hJ F₁ N₁
    exact done h' tk' gs' m₂ nx' hJ F₁ N₁
theorem go_range {r : Addr} {a₀ b₀ st₀ : Int} {t₀ u₀ v₀ : Tok} {n : Nat} {m : Str → Option Value} {nx0 : List (Addr × Obj)} (hh : A.handled = none) (hr : IsRange s.heap r a₀ b₀ st₀ t₀ u₀ v₀) (hsmall : Builtin.Range.small a₀ b₀ st₀ = true) (hn : Builtin.Range.rangeSize a₀ b₀ st₀ = (n : Int)) (F : Fr g env.locals s.heap m) (N : News g env.locals s.heap nx0)
   (hx : env.kindOf x = some .local) (hp : (env.scope.kind == .class || (env.scope.kind == .module && env.locals != env.globals)) = false) (hE : PassesOwn (model prog w) A env E)
   (J : Nat → (Str → Option Value) → List (Addr × Obj) → Array GenState → Prop) (h0 : J 0 m nx0 s.gens)
   (turn : ∀ i t m₁ nx h tk gs it o, i < n → J i m₁ nx gs → (∀ p ∈ nx, p.1 ≠ it) → Fr g env.locals h (fun y => if y = x then some (.int (a₀ + (i : Int) * st₀) t) else m₁ y) → News g env.locals h ((it, o) :: nx) →
     wpAny (model prog w) A (execs body env) (GoPost g env.locals it o [] J (i + 1) s Q) E { s with heap := h, toks := tk, gens := gs })
   (done : ∀ h' tk' gs' m₂ nx', J n m₂ nx' gs' → Fr g env.locals h' m₂ → News g env.locals h' nx' → Q .next { s with heap := h', toks := tk', gens := gs' }) :
   wpAny (model prog w) A (pyIter (.ref r)) (fun it s₂ => codeAny (model prog w) A (.forLoop (.Name x px) it body [] env) (fun r s' => match r with | .ok f => Q f s' | .error e => cameBackBy (model prog w) A env E e s') s₂) E s := by
  refine wpAny_pyIter_range hr hsmall ?_
  have W : Walks prog w A s.heap.objs.size [s.heap.objs.size] [s.heap.objs.size] n (fun i v => i < n ∧ ∃ t, v = .int (a₀ + i * st₀) t)
      (fun i h => IsRangeIter h s.heap.objs.size (a₀ + (i : Nat) * st₀) ((n : Int) - (i : Nat)) st₀) := (Walks.range hh _ a₀ st₀ n).bound
  refine go_loop (s := { s with heap := s.heap.push _ }) (fix := []) (nx0 := nx0) (Q := Q) W hx hp hE (F.push _) (fun p hp => ⟨Heap.get?_push_of_some _ (N p hp).1, (N p hp).2⟩) (fun i h st => ⟨_, st⟩) (Nat.ne_of_lt F.ns.lt) (Heap.get?_none_of_le (Nat.le_trans F.above (Nat.le_of_lt F.ns.lt))) (fun p hp => nomatch hp) (fun p hp => Nat.ne_of_lt (Heap.lt_size (N p hp).1)) (by show IsRangeIter _ _ _ _ _; rw [hn]; simpa using Heap.get?_push_size _ rfl) J h0 ?_ ?_
  · intro i v m₁ nx h tk gs o hi hZ9 hJ hoff F₁ N₁
    refine wait fun cW hW => ?_
    obtain ⟨_, t, rfl⟩ := hZ9
    refine hW ?_
    clear hW cW
    exact turn i t m₁ nx h tk gs _ o hi hJ hoff F₁ N₁
  · intro h' tk' gs' m₂ nx' hJ F₁ N₁
    exact done h' tk' gs' m₂ nx' hJ F₁ N₁
end

example : True := by w_top off; trivial
/-- a place where the colour changes away from col -/
def nearAt (row : List Int) (col k : Int) : Prop := row.getD k.toNat 0 ≠ col ∧ (if 0 < k then row.getD (k - 1).toNat 0 else 0) = col
/-- k is the next such place behind p, or the row's end -/
def NearR (row : List Int) (p col k : Int) : Prop := (∀ j, p + 1 ≤ j → j < k → ¬ nearAt row col j) ∧ ((p + 1 ≤ k ∧ k < row.length ∧ nearAt row col k) ∨ k = row.length)
theorem near_step {row : List Int} {col place kx : Int} {pre : List Int} (h : ∀ j, place + 1 ≤ j → j < place + 1 + pre.length → ¬ nearAt row col j) (e : kx = place + 1 + pre.length) (hn : ¬ nearAt row col kx) : ∀ j, place + 1 ≤ j → j < place + 1 + (pre ++ [kx]).length → ¬ nearAt row col j := fun j h1 h2 => by
  rw [List.length_append, List.length_singleton] at h2
  by_cases q : j = kx
  · exact q ▸ hn
  · exact h j h1 (by omega)
def at0 (p : Int) : Int := if p > 0 then p else 0

example : True := by w_top off; trivial
theorem aft_same {h h' : Heap} {adr : List Addr} {cells : List (Addr × Obj)} (D : Aft h h' adr cells) (hc : ∀ p ∈ cells, h.get? p.1 = some p.2) (ha : ∀ a ∈ adr, a ∈ cells.map (·.1)) : ∀ b o, h.get? b = some o → h'.get? b = some o := fun b o e => by
  by_cases hb : b ∈ adr
  · obtain ⟨p, hp, rfl⟩ := List.mem_map.mp (ha b hb)
    have := hc p hp
    rw [e] at this
    rw [D.got p hp, this]
  · exact D.keep b o e hb
theorem fr_all {g h h' : Heap} {L : Addr} {m : Str → Option Value} (F : Fr g L h m) (k : ∀ b o, h.get? b = some o → h'.get? b = some o) : Fr g L h' m := ⟨F.ns.keeps k, fun b o e => k b o (F.keep b o e), F.above⟩
theorem news_all {g h h' : Heap} {L : Addr} {cells : List (Addr × Obj)} (N : News g L h cells) (k : ∀ b o, h.get? b = some o → h'.get? b = some o) : News g L h' cells := fun p hp => ⟨k _ _ (N p hp).1, (N p hp).2⟩
section
variable {w : World} {mean : ExcName → Option Value} {mg mb : Str → Option Value} {dp un : Nat} {gd : Option (List Code)} {cn : Str} {cs : Scope} {a : Addr} {ccd : Value} {cl : List (Str × Addr)} {outer : List Env} {A₀ : Around} {base h₀ : Heap} {L : Addr} {m : Str → Option Value} {s : Shared} {Q E : Value → Shared → Prop}
theorem near_tells (l : Nat) (nn : Nat) (vs : List Value) (row : List Int) (place col : Int) (tk1 tk2 : Tok)
 (C : Cx w mean mg mb cs outer A₀ base h₀ L m s.heap) (N : News h₀ L s.heap [(l, listOf vs.toArray nn)]) (hi : IntsAre vs row) (hlen : row.length ≤ 12) (hp : -1 ≤ place) (hp2 : place ≤ 12) (hdp : dp + 2 < recursionLimit) (hun : un + 30 < cLine)
 (hret : ∀ k t h' tk', NearR row place col k → (∀ b o, s.heap.get? b = some o → h'.get? b = some o) → Q (.int k t) { s with heap := h', toks := tk' }) :
 wpAny (model PG w) (ktrTop dp un gd cn cs L a ccd cl outer) (call (.ref 581) [.ref l, .int place tk1, .int col tk2]) Q E s := by
  obtain ⟨B, F, X, T, hk⟩ := C
  have hl1 : vs.length = row.length := hi.length
  have hl12 : (row.length : Int) ≤ 12 := Int.ofNat_le.2 hlen
  have hl63 := w63 hl12 (Int.le_refl _)
  have hdp0 : dp < 1000 := dn (c := 0) hdp (Nat.zero_le _)
  have h0 : 0 ≤ place + 1 := Int.add_le_add_right hp 1
  cell_step
  intro g' L' h' FG' F' N' B' X' T' G'
  have F1 : Fr g' L' h' (fun y => List.lookup y [(Str.ofString "colour", Value.int col tk2), (Str.ofString "place", Value.int place tk1), (Str.ofString "row", Value.ref l)]) := F'
  clear F'
  (try dsimp only)
  (try k_fold)
  ktr_enter
  (rename Fr _ _ _ _ => lF)
  (rename News _ _ _ _ => lN)
  (rename IsRange _ _ _ _ _ _ _ _ => rgX)
  with_unfolding_all
   refine' kst_range (σ := Unit) (fun _ => [(l, listOf vs.toArray nn)]) (fun _ => []) (fun _ => True) [] (fun pre _ => ∀ j, place + 1 ≤ j → j < place + 1 + pre.length → ¬ nearAt row col j) () (by rfl) rgX ?hsmall (rangeSize_nat _ _) lF lN trivial ?hk ?hp ?turn ?done
  case hsmall => exact small_one (n62 (n1_of h0)) (Int.lt_of_le_of_lt (Int.add_le_add_right hp2 1) (by decide)) (n62 (n1_of (Int.natCast_nonneg _))) (w62 hl12 (Int.le_refl _))
  case hk => intro p hp; cases hp
  case hp => exact fun j h1 h2 => absurd h2 (Int.not_lt.2 (Int.le_trans (Int.le_of_eq (Int.add_zero _)) h1))
  case turn =>
    intro q pre kx tkx u kh ktk own kEq kLt kOff _ kInv kFr kNews
    rw [kst0v] at kFr
    (try clear lF); (try clear lN)
    (try simp only [List.cons_append, List.nil_append] at kNews)
    have q0 : 0 ≤ kx := Int.le_trans h0 (le_of_run kEq)
    have q1 : kx < row.length := lt_of_run kEq kLt
    have q2 := w63 hl12 (Int.le_of_lt q1)
    have q3 := Int.lt_trans (Int.sub_lt_self kx Int.one_pos) q2
    have q4 := Int.lt_trans (Int.sub_lt_self kx Int.one_pos) q1
    ktr_enter
    all_goals (rename Fr _ _ _ _ => lF)
    all_goals (rename News _ _ _ _ => lN)
    all_goals (try dsimp only)
    · (try dsimp only [InvPostN])
      refine leaveK_ lF lN fun kF kN => ?_
      have hat : nearAt row col kx := by
        unfold nearAt
        refine ⟨by assumption, ?_⟩
        split <;> first | with_reducible assumption | exact absurd (show kx > 0 by with_reducible assumption) (show ¬ kx > 0 by with_reducible assumption)
      exact hret kx _ _ _ ⟨fun j h1 h2 => kInv j h1 (by rw [← kEq]; exact h2), .inl ⟨le_of_run kEq, q1, hat⟩⟩ (aft_same (aft_of N G' lF (news_sub (new := [_]) lN (fun p hp => (List.mem_singleton.mp hp) ▸ List.Mem.head _))) (fun p hp => (N p hp).1) (fun _ h => h))
    · have hat : ¬ nearAt row col kx := by
        unfold nearAt
        rintro ⟨g1, g2⟩
        first | exact g1 (by with_reducible assumption) | (rw [if_pos (show kx > 0 by with_reducible assumption)] at g2; exact absurd g2 (by with_reducible assumption)) | (rw [if_neg (show ¬ kx > 0 by with_reducible assumption)] at g2; exact absurd g2 (by with_reducible assumption))
      (try dsimp only [InvPostN])
      exact kst_end () lF lN (by k_allIn) (fun p hp => .tail _ hp) rfl trivial (by intro p hp; cases hp) (fun z hz _ _ => if_neg hz) (near_step kInv kEq hat)
    · (try dsimp only [InvPostN])
      refine leaveK_ lF lN fun kF kN => ?_
      have hat : nearAt row col kx := by
        unfold nearAt
        refine ⟨by assumption, ?_⟩
        split <;> first | with_reducible assumption | exact absurd (show kx > 0 by with_reducible assumption) (show ¬ kx > 0 by with_reducible assumption)
      exact hret kx _ _ _ ⟨fun j h1 h2 => kInv j h1 (by rw [← kEq]; exact h2), .inl ⟨le_of_run kEq, q1, hat⟩⟩ (aft_same (aft_of N G' lF (news_sub (new := [_]) lN (fun p hp => (List.mem_singleton.mp hp) ▸ List.Mem.head _))) (fun p hp => (N p hp).1) (fun _ h => h))
    · have hat : ¬ nearAt row col kx := by
        unfold nearAt
        rintro ⟨g1, g2⟩
        first | exact g1 (by with_reducible assumption) | (rw [if_pos (show kx > 0 by with_reducible assumption)] at g2; exact absurd g2 (by with_reducible assumption)) | (rw [if_neg (show ¬ kx > 0 by with_reducible assumption)] at g2; exact absurd g2 (by with_reducible assumption))
      (try dsimp only [InvPostN])
      exact kst_end () lF lN (by k_allIn) (fun p hp => .tail _ hp) rfl trivial (by intro p hp; cases hp) (fun z hz _ _ => if_neg hz) (near_step kInv kEq hat)
    · have hat : ¬ nearAt row col kx := by
        unfold nearAt
        rintro ⟨g1, g2⟩
        first | exact g1 (by with_reducible assumption) | (rw [if_pos (show kx > 0 by with_reducible assumption)] at g2; exact absurd g2 (by with_reducible assumption)) | (rw [if_neg (show ¬ kx > 0 by with_reducible assumption)] at g2; exact absurd g2 (by with_reducible assumption))
      (try dsimp only [InvPostN])
      exact kst_end () lF lN (by k_allIn) (fun p hp => .tail _ hp) rfl trivial (by intro p hp; cases hp) (fun z hz _ _ => if_neg hz) (near_step kInv kEq hat)
  case done =>
    intro q u kh ktk _ kInv kFr kNews
    rw [kst0] at kFr
    (try clear lF); (try clear lN)
    (try dsimp only)
    ktr_enter
    (rename Fr _ _ _ _ => lF)
    (rename News _ _ _ _ => lN)
    (try dsimp only)
    rw [rangeKs_length] at kInv
    refine leaveK_ lF lN fun kF kN => ?_
    exact hret _ _ _ _ ⟨fun j h1 h2 => kInv j h1 (Int.lt_of_lt_of_le h2 (Int.le_trans (Int.le_of_eq add_sub_to.symm) (Int.add_le_add_left (Int.self_le_toNat _) _))), .inr rfl⟩ (aft_same (aft_of N G' lF lN) (fun p hp => (N p hp).1) (fun _ h => h))
end
theorem str_room {x y : Str} (h : x.length ≤ 100000) (h2 : y.length ≤ 1000) : x.length + y.length ≤ sizeLine := by rw [sizeLine_eq]; exact Nat.le_trans (Nat.add_le_add h h2) (Nat.le_of_ble_eq_true rfl)
theorem str_room4 {x : Str} (h : x.length ≤ 100000) : x.length + (Str.ofString "0001").length ≤ sizeLine := by
  have : (Str.ofString "0001").length = 4 := by decide +kernel
  rw [sizeLine_eq, this]; exact Nat.le_trans (Nat.add_le_add_right h _) (Nat.le_of_ble_eq_true rfl)
theorem str_room3 {x : Str} (h : x.length ≤ 100000) : x.length + (Str.ofString "001").length ≤ sizeLine := by
  have : (Str.ofString "001").length = 3 := by decide +kernel
  rw [sizeLine_eq, this]; exact Nat.le_trans (Nat.add_le_add_right h _) (Nat.le_of_ble_eq_true rfl)

local macro_rules | `(tactic| walk_at "binaryOp Add str str") => `(tactic| (k_here; (with_reducible show wpAny _ _ (binaryOp Operator.Add (Value.str _ _) (Value.str _ _)) _ _ _); (refine add_str ?_ (by first | exact str_room4 (by assumption) | exact str_room3 (by assumption) | exact str_room (by assumption) (by assumption))); intro _ _))

example : True := by w_top off; trivial
/-- the bits that a str of 0 and 1 tells -/
def strBits (x : Str) : List Bool := x.cps.toList.map fun c => c == 49
theorem strBits_app (x y : Str) : strBits (x ++ y) = strBits x ++ strBits y := by
  show ((x.cps ++ y.cps).toList.map _) = _
  rw [Array.toList_append, List.map_append]; rfl
/-- the str at a place of a list in the written heap -/
def strAt (K : Frag) (l : Addr) (i : Nat) : Option Str := match K.lookup l with
  | some ⟨_, _, .seq its _, _⟩ => (match its[i]? with
    | some (.str s _) => some s
    | _ => none)
  | _ => none
def refAt (K : Frag) (l : Addr) (i : Nat) : Option Addr := match K.lookup l with
  | some ⟨_, _, .seq its _, _⟩ => (match its[i]? with
    | some (.ref a) => some a
    | _ => none)
  | _ => none
/-- the law's code of a run of n places of a colour -/
noncomputable def runStr (P : Params) (col n : Int) : Str := ((refAt (hd.heap_39 P) 569 col.toNat).bind fun l => strAt (hd.heap_39 P) l n.toNat).getD (Str.ofString "")
def stepStr (d : Int) : Str := [Str.ofString "0000010", Str.ofString "000010", Str.ofString "010", Str.ofString "1", Str.ofString "011", Str.ofString "000011", Str.ofString "0000011"].getD (d + 3).toNat (Str.ofString "")
/-- the coding of a row, from a place and a colour on -/
inductive CodeR (P : Params) (row above : List Int) : Int → Int → List Bool → Prop where
  | stop {p c : Int} : (row.length : Int) ≤ p → CodeR P row above p c []
  | pass {p c here there back : Int} {bs : List Bool} : p < row.length → NearR row p c here → NearR above p c there → NearR above there (1 - c) back → back < here → CodeR P row above back c bs → CodeR P row above p c (strBits (Str.ofString "0001") ++ bs)
  | vert {p c here there back : Int} {bs : List Bool} : p < row.length → NearR row p c here → NearR above p c there → NearR above there (1 - c) back → ¬ back < here → -3 ≤ here - there → here - there ≤ 3 → CodeR P row above here (1 - c) bs → CodeR P row above p c (strBits (stepStr (here - there)) ++ bs)
  | hor {p c here there back back2 : Int} {bs : List Bool} : p < row.length → NearR row p c here → NearR above p c there → NearR above there (1 - c) back → ¬ back < here → ¬ (-3 ≤ here - there ∧ here - there ≤ 3) → NearR row here (1 - c) back2 → CodeR P row above back2 c bs →
     CodeR P row above p c (strBits (Str.ofString "001") ++ (strBits (runStr P c (here - (if p > 0 then p else 0))) ++ (strBits (runStr P (1 - c) (back2 - here)) ++ bs)))
theorem run_there (P : Params) : ((refAt (hd.heap_39 P) 569 0).bind fun l => strAt (hd.heap_39 P) l 3).isSome = true := by kernel_rfl
theorem len_app (x y : Str) : (x ++ y).length = x.length + y.length := by
  show (x.cps ++ y.cps).size = x.cps.size + y.cps.size
  rw [Array.size_append]
theorem len_pass {x : Str} {pl back : Int} (h : (x.length : Int) ≤ 1000 * (pl + 1)) (hb : pl < back) : ((x ++ Str.ofString "0001").length : Int) ≤ 1000 * (back + 1) := by
  have h4 : (Str.ofString "0001").length = 4 := by decide +kernel
  rw [len_app, h4]
  exact len_up h (by decide) hb

example : True := by w_top off; trivial
/-- a row the other way round -/
def inv (l : List Int) : List Int := l.map fun b => 1 - b
theorem inv_len (l : List Int) : (inv l).length = l.length := List.length_map _
theorem inv_getD {l : List Int} {i : Nat} (h : i < l.length) : (inv l).getD i 0 = 1 - l.getD i 0 := by
  unfold inv
  rw [List.getD_eq_getElem?_getD, List.getD_eq_getElem?_getD, List.getElem?_map, List.getElem?_eq_getElem h]; rfl
theorem isFirst_uniq {p : Int → Prop} {a b b' : Int} (h : IsFirst p a b) (h' : IsFirst p a b') : b = b' := by
  obtain ⟨h1, h2, h3⟩ := h
  obtain ⟨g1, g2, g3⟩ := h'
  rcases Int.lt_trichotomy b b' with q | q | q
  · exact absurd h2 (g3 b h1 q)
  · exact q
  · exact absurd g2 (h3 b' g1 q)
theorem near_stop1 {above : List Int} {p c k : Int} (h : NearR above p c k) (hp : -1 ≤ p) (hl : p < above.length) (h1 : 1 ≤ above.length) (hc : c = 0 ∨ c = 1) : IsFirst (stop1 (inv above) (1 - c)) (p + 1) k := by
  obtain ⟨hn, hk⟩ := h
  have hpk : p + 1 ≤ k := hk.elim (fun q => q.1) (fun e => by rw [e]; exact hl)
  have hkl : k ≤ above.length := hk.elim (fun q => Int.le_of_lt q.2.1) (fun e => Int.le_of_eq e)
  have hp1 : 0 ≤ p + 1 := Int.add_le_add_right hp 1
  refine ⟨hpk, ?_, fun y hy1 hy2 hs => ?_⟩
  · unfold stop1
    rcases hk with ⟨k1, k2, k3, k4⟩ | rfl
    · by_cases h0 : k = 0
      · subst h0
        rw [if_pos rfl, inv_getD (tnL h1 k2)]
        rw [if_neg (Int.lt_irrefl 0)] at k4
        exact ⟨by rw [← k4]; rfl, flip_ne k3⟩
      · rw [if_neg h0, inv_getD (tnL h1 k2), inv_getD (tnL1 h1 k2)]
        rw [if_pos (lt_ne (Int.le_trans hp1 hpk) (Ne.symm h0))] at k4
        exact .inr ⟨flip_of k4, flip_ne k3⟩
    · rw [if_neg (by omega), inv_len]
      exact .inl rfl
  · refine hn y hy1 hy2 ?_
    have hyl : y < above.length := Int.lt_of_lt_of_le hy2 hkl
    unfold stop1 at hs
    unfold nearAt
    by_cases h0 : y = 0
    · subst h0
      rw [if_pos rfl, inv_getD (tnL h1 hyl)] at hs
      rw [if_neg (Int.lt_irrefl 0)]
      exact ⟨fun e => hs.2 (flip_of e), (flip_eq (c := 0) hs.1).symm⟩
    · rw [if_neg h0, inv_len] at hs
      rcases hs with q | ⟨a, b⟩
      · exact absurd q (Int.ne_of_lt hyl)
      · rw [inv_getD (tnL h1 hyl)] at b
        rw [inv_getD (tnL1 h1 hyl)] at a
        rw [if_pos (lt_ne (Int.le_trans hp1 hy1) (Ne.symm h0))]
        exact ⟨fun e => b (flip_of e), flip_eq a⟩
theorem near_stop2 {above : List Int} {t c k : Int} (h : NearR above t (1 - c) k) (hb : Bits above) (h0 : 0 ≤ t) (hl : t ≤ above.length) (ht : t < above.length → above.getD t.toNat 0 ≠ c) (h1 : 1 ≤ above.length) (hc : c = 0 ∨ c = 1) : IsFirst (stop2 (inv above) (1 - c)) t k := by
  obtain ⟨hn, hk⟩ := h
  have htk : t ≤ k := hk.elim (fun q => Int.le_of_lt q.1) (fun e => by rw [e]; exact hl)
  have hkl : k ≤ above.length := hk.elim (fun q => Int.le_of_lt q.2.1) (fun e => Int.le_of_eq e)
  refine ⟨htk, ?_, fun y hy1 hy2 hs => ?_⟩
  · unfold stop2
    rw [if_neg (by omega), inv_len]
    rcases hk with ⟨k1, k2, k3, k4⟩ | e
    · rw [if_pos (Int.lt_of_le_of_lt h0 k1)] at k4
      rw [inv_getD (tnL h1 k2), inv_getD (tnL1 h1 k2)]
      exact .inr ⟨fun e => other_ne k4 (flip_eq e), flip_of (other_eq (hb.getD k.toNat) hc k3)⟩
    · exact .inl e
  · have hyl : y < above.length := Int.lt_of_lt_of_le hy2 hkl
    have key : (inv above).getD y.toNat 0 = 1 - above.getD y.toNat 0 := inv_getD (tnL h1 hyl)
    unfold stop2 at hs
    by_cases e : y = t
    · subst e
      by_cases y0 : y = 0
      · rw [if_pos y0, key] at hs
        exact ht hyl (flip_eq hs.2)
      · rw [if_neg y0, key, inv_len] at hs
        rcases hs with q | ⟨a, b⟩
        · exact absurd q (Int.ne_of_lt hyl)
        · exact ht hyl (flip_eq b)
    · have hty : t < y := lt_ne hy1 (Ne.symm e)
      have hy0 : 0 < y := Int.lt_of_le_of_lt h0 hty
      refine hn y hty hy2 ?_
      rw [if_neg (Int.ne_of_gt hy0), key, inv_len] at hs
      unfold nearAt
      rw [if_pos hy0]
      rcases hs with q | ⟨a, b⟩
      · exact absurd q (Int.ne_of_lt hyl)
      · rw [inv_getD (tnL1 h1 hyl)] at a
        exact ⟨fun e' => other_ne e' (flip_eq b), other_of (hb.getD (y - 1).toNat) hc fun e' => a (flip_of e')⟩
/-- how a row goes on from a place -/
def Here (row : List Int) (p c : Int) : Prop := (p = -1 ∧ c = 0) ∨ (0 ≤ p ∧ (p < row.length → row.getD p.toNat 0 = c))
theorem near_run {row : List Int} {p c k : Int} (h : NearR row p c k) (hh : Here row p c) : ∀ n : Nat, at0 p + n < k → row.getD (at0 p + n).toNat 0 = c := by
  obtain ⟨hn, hk⟩ := h
  have hkl : k ≤ row.length := by rcases hk with ⟨_, q, _⟩ | q <;> omega
  intro n
  induction n with
  | zero =>
    intro hlt
    rcases hh with ⟨rfl, rfl⟩ | ⟨h0, h1⟩
    · have := hn 0 (by omega) (by simp only [at0] at hlt; omega)
      unfold nearAt at this
      rw [if_neg (by omega)] at this
      show row.getD 0 0 = 0
      exact Decidable.byContradiction fun q => this ⟨q, rfl⟩
    · have e : at0 p = p := by unfold at0; split <;> omega
      rw [e] at hlt ⊢
      have := h1 (by omega)
      simpa using this
  | succ n ih =>
    intro hlt
    have h1 := ih (Int.lt_trans (Int.add_lt_add_left (Int.ofNat_lt.2 (Nat.lt_succ_self n)) _) hlt)
    have ha : 0 ≤ at0 p ∧ p ≤ at0 p := by unfold at0; split <;> omega
    have := hn (at0 p + (n + 1 : Nat)) (by omega) hlt
    unfold nearAt at this
    rw [if_pos (Int.lt_of_le_of_lt ha.1 (Int.lt_add_of_pos_right _ (Int.natCast_pos.2 (Nat.succ_pos n))))] at this
    have e : (at0 p + ((n + 1 : Nat) : Int) - 1).toNat = (at0 p + (n : Int)).toNat := by omega
    rw [e] at this
    exact Decidable.byContradiction fun q => this ⟨q, h1⟩
theorem near_run' {row : List Int} {p c k : Int} (h : NearR row p c k) (hh : Here row p c) (i : Nat) (h1 : at0 p ≤ i) (h2 : (i : Int) < k) : row.getD i 0 = c := by
  have h3 : 0 ≤ at0 p := by unfold at0; split <;> omega
  obtain ⟨a, ea⟩ := Int.eq_ofNat_of_zero_le h3
  have h4 : a ≤ i := Int.ofNat_le.1 (ea ▸ h1)
  have e : at0 p + ((i - a : Nat) : Int) = i := by rw [ea, ← Int.natCast_add, Nat.add_sub_cancel' h4]
  have := near_run h hh (i - a) (by rw [e]; exact h2)
  rwa [e, Int.toNat_natCast] at this
theorem near_le {row : List Int} {p c k : Int} (h : NearR row p c k) (hp : p ≤ row.length) : p ≤ k ∧ k ≤ row.length ∧ (p < row.length → p + 1 ≤ k) := by
  rcases h.2 with ⟨a, b, _⟩ | e
  · exact ⟨Int.le_of_lt a, Int.le_of_lt b, fun _ => a⟩
  · exact ⟨by rw [e]; exact hp, Int.le_of_eq e, fun q => by rw [e]; exact q⟩
theorem near_at {row : List Int} {p c k : Int} (h : NearR row p c k) (hk : k < row.length) : row.getD k.toNat 0 ≠ c := by
  rcases h.2 with ⟨_, _, a, _⟩ | e
  · exact a
  · exact absurd e (Int.ne_of_lt hk)
theorem fillN_getD (l : List Int) (v : Int) (a i : Nat) : ∀ k, (fillN l v a k).getD i 0 = if a ≤ i ∧ i < a + k ∧ i < l.length then v else l.getD i 0
  | 0 => by rw [fillN, if_neg fun q => absurd (Nat.lt_of_le_of_lt q.1 q.2.1) (Nat.lt_irrefl a)]
  | k + 1 => by
    rw [fillN, List.getD_eq_getElem?_getD, List.getElem?_set, fillN_length]
    by_cases e : a + k = i
    · subst e
      rw [if_pos rfl]
      by_cases h : a + k < l.length
      · rw [if_pos h, if_pos ⟨Nat.le_add_right _ _, Nat.lt_succ_self _, h⟩]; rfl
      · rw [if_neg h, if_neg fun q => h q.2.2, getD_off l h]; rfl
    · rw [if_neg e, ← List.getD_eq_getElem?_getD, fillN_getD l v a i k]
      by_cases h : a ≤ i ∧ i < a + k ∧ i < l.length
      · rw [if_pos h, if_pos ⟨h.1, Nat.lt_succ_of_lt h.2.1, h.2.2⟩]
      · rw [if_neg h, if_neg fun q => h ⟨q.1, Nat.lt_of_le_of_ne (Nat.le_of_lt_succ q.2.1) (Ne.symm e), q.2.2⟩]
theorem fillN_none (l : List Int) (v : Int) (a : Nat) : fillN l v a 0 = l := rfl
theorem list_ext {l l' : List Int} (h : l.length = l'.length) (hg : ∀ i, i < l.length → l.getD i 0 = l'.getD i 0) : l = l' := by
  refine List.ext_getElem h fun i h1 h2 => ?_
  have := hg i h1
  rw [List.getD_eq_getElem?_getD, List.getD_eq_getElem?_getD, List.getElem?_eq_getElem h1, List.getElem?_eq_getElem h2] at this
  exact this
/-- the decoder stands in a row, its row so far told -/
structure InRow (P : Params) (wd : Int) (row above : List Int) (buf : Array UInt8) (p c : Int) (M : MS) : Prop where
  k : M.k = .md
  T : M.T = modeT P
  cp : M.S.cp = p
  col : M.S.col = 1 - c
  rf : M.S.rf = inv above
  len : (M.S.cur.length : Int) = wd
  cur : ∀ i : Nat, (i : Int) < p → M.S.cur.getD i 0 = 1 - row.getD i 0
  buf : M.S.buf = buf
  hb : Bits M.S.cur
  c01 : c = 0 ∨ c = 1
  hp : -1 ≤ p ∧ p ≤ wd
  hh : Here row p c
  h0 : p = -1 → M.S.cur = List.replicate wd.toNat 1
  n12 : M.n1 = none → M.n2 = none
structure RowOk (wd : Int) (row : List Int) : Prop where
  len : (row.length : Int) = wd
  bits : Bits row
theorem set_ones (n i : Nat) : (List.replicate n (1 : Int)).set i 1 = List.replicate n 1 := by
  refine List.ext_getElem (by simp) fun j h1 h2 => ?_
  rw [List.getElem_set]
  split <;> simp
theorem InRow.ok {P : Params} {wd : Int} {row above : List Int} {buf : Array UInt8} {p c : Int} {M : MS} (I : InRow P wd row above buf p c M) (hw0 : 1 ≤ wd) (hw : wd ≤ 12) (ha : RowOk wd above) (hp : p < wd) : Ok wd M.S := by
  refine ⟨hw0, hw, by rw [I.rf, inv_len]; exact ha.len, I.len, I.hb, by rw [I.rf]; exact ha.bits.flip, by rw [I.cp]; exact I.hp.1, by rw [I.cp]; exact hp, ?_, fun h => ?_⟩
  · rw [I.col]; exact flip01 I.c01
  · rw [I.cp] at h
    have hm : p = -1 := by have := I.hp.1; omega
    have hc : M.S.col = 1 := by
      rw [I.col]
      rcases I.hh with ⟨_, e⟩ | ⟨q, _⟩ <;> omega
    rw [hc, I.h0 hm]
    exact set_ones _ _
theorem InRow.at0 {P : Params} {wd : Int} {row above : List Int} {buf : Array UInt8} {p c : Int} {M : MS} (I : InRow P wd row above buf p c M) : M.S.at0 = at0 p := by
  show (if M.S.cp > 0 then M.S.cp else 0) = _
  rw [I.cp]; rfl
/-- a run filled: what stands then -/
theorem run_filled {wd p c k : Int} {row cur : List Int} (hl : (cur.length : Int) = wd) (hrow : (row.length : Int) = wd) (hcur : ∀ i : Nat, (i : Int) < p → cur.getD i 0 = 1 - row.getD i 0) (hrun : ∀ i : Nat, at0 p ≤ i → (i : Int) < k → row.getD i 0 = c) (hk : k ≤ wd) (hp : p ≤ k) :
   ∀ i : Nat, (i : Int) < k → (fillN cur (1 - c) (at0 p).toNat (k - at0 p).toNat).getD i 0 = 1 - row.getD i 0 := by
  intro i hi
  have h3 : 0 ≤ at0 p ∧ p ≤ at0 p := by unfold at0; split <;> omega
  have h4 : at0 p ≤ i ∨ (i : Int) < p := by
    unfold at0; split
    · exact (Int.lt_or_le _ _).symm
    · exact .inl (Int.natCast_nonneg i)
  rw [fillN_getD]
  by_cases h : at0 p ≤ i
  · have q := run_in h3.1 h hi
    rw [if_pos ⟨q.1, q.2, Int.ofNat_lt.1 (hl ▸ Int.lt_of_lt_of_le hi hk)⟩, hrun i h hi]
  · rw [if_neg fun q => h (Int.toNat_le.1 q.1), hcur i (h4.resolve_left h)]

example : True := by w_top off; trivial
/-- the whole of the bits to come: what stands in the buffer after each (D), where the row's end skips to the next octet -/
def All (P : Params) (wd : Int) (al rv : Bool) (D : Nat → MS → Prop) : Bool → MS → List Bool → Nat → Prop
  | _, M, [], n => D n M
  | sk, M, b :: bs, n => D n M ∧ if sk = true ∧ n % 8 ≠ 0 then All P wd al rv D true M bs (n + 1) else
      Fit wd M b ∧ ∀ res, StepR P wd al rv M b res → match res with
        | .go M' => All P wd al rv D false M' bs (n + 1)
        | .skip M' => All P wd al rv D true M' bs (n + 1)
        | .eof M' => bs.length < 8 ∧ D (n + 1 + bs.length) M'
section
variable {P : Params} {wd : Int} {al rv : Bool} {D : Nat → MS → Prop}
theorem All.here {sk : Bool} {M : MS} {bs : List Bool} {n : Nat} (h : All P wd al rv D sk M bs n) : D n M := by
  cases bs with
  | nil => exact h
  | cons b bs => exact h.1
/-- what the decoder may be handed next, behind an octet -/
def PostA (P : Params) (wd : Int) (al rv : Bool) (D : Nat → MS → Prop) (rest : List Bool) (n : Nat) (M : MS) : Prop := All P wd al rv D false M rest n
def PostEA (D : Nat → MS → Prop) (rest : List Bool) (n : Nat) (M : MS) : Prop := rest = [] ∧ D n M
theorem all_wake {M : MS} {bs : List Bool} {n : Nat} (hn : n % 8 = 0) (h : All P wd al rv D true M bs n) : All P wd al rv D false M bs n := by
  cases bs with
  | nil => exact h
  | cons b bs =>
    refine ⟨h.1, ?_⟩
    have h2 := h.2
    rw [if_neg (fun q => q.2 hn)] at h2
    rw [if_neg (fun q => nomatch q.1)]
    exact h2
theorem all_skip {M : MS} {rest : List Bool} {N : Nat} (hN : N % 8 = 0) : ∀ (xs : List Bool) (n : Nat), n + xs.length = N → N < n + 8 → All P wd al rv D true M (xs ++ rest) n → All P wd al rv D false M rest N
  | [], n, hn, _, h => by
    have e : n = N := by simpa using hn
    subst e
    exact all_wake hN h
  | x :: xs, n, hn, hl, h => by
    have h2 := h.2
    rw [List.length_cons] at hn
    rw [if_pos ⟨rfl, mod8_ne hN hn hl⟩] at h2
    exact all_skip hN xs (n + 1) ((Nat.succ_add_eq_add_succ _ _).trans hn) (Nat.lt_trans hl (Nat.add_lt_add_right (Nat.lt_succ_self n) 8)) h2
theorem oct_runs {rest : List Bool} {N : Nat} (hN : N % 8 = 0) (hr : rest.length % 8 = 0) : ∀ (xs : List Bool) (M : MS) (n : Nat), n + xs.length = N → N ≤ n + 8 → All P wd al rv D false M (xs ++ rest) n → Runs P wd al rv (PostA P wd al rv D rest N) (PostEA D rest N) M xs
  | [], M, n, hn, _, h => by
    have e : n = N := by simpa using hn
    subst e
    exact h
  | x :: xs, M, n, hn, hl, h => by
    rw [List.length_cons] at hn
    have h2 := h.2
    rw [if_neg (fun q => nomatch q.1)] at h2
    refine ⟨h2.1, fun res hs => ?_⟩
    have h3 := h2.2 res hs
    have hn1 : n + 1 + xs.length = N := (Nat.succ_add_eq_add_succ _ _).trans hn
    cases res with
    | go M' => exact oct_runs hN hr xs M' (n + 1) hn1 (Nat.le_trans hl (Nat.add_le_add_right (Nat.le_succ n) 8)) h3
    | skip M' => exact all_skip hN xs (n + 1) hn1 (Nat.lt_of_le_of_lt hl (Nat.add_lt_add_right (Nat.lt_succ_self n) 8)) h3
    | eof M' =>
      obtain ⟨h4, h5⟩ := h3
      have h4 : (xs ++ rest).length < 8 := h4
      have h5 : D (n + 1 + (xs ++ rest).length) M' := h5
      rw [List.length_append] at h4 h5
      have h6 : rest.length = 0 := (Nat.mod_eq_of_lt (Nat.lt_of_le_of_lt (Nat.le_add_left _ _) h4)).symm.trans hr
      refine ⟨List.length_eq_zero_iff.mp h6, ?_⟩
      have e : n + 1 + (xs.length + rest.length) = N := by rw [h6, Nat.add_zero]; exact hn1
      rw [← e]; exact h5
theorem kid_path {T : Tr} {b : Bool} {bs : List Bool} {lf : Tr} (h : T.path (b :: bs) = some lf) : ∃ T', T.kid b = some T' ∧ T'.path bs = some lf := by
  cases T with
  | node l r => exact ⟨_, rfl, h⟩
  | num i => cases h
  | word s => cases h
  | non => cases h
/-- through a code's bits -/
theorem path_runs {rest : List Bool} {lf : Tr} {K : Bool → MS → Prop} : ∀ (code : List Bool) (M : MS) (n : Nat), M.T.path code = some lf → code ≠ [] → (∀ j, n ≤ j → j < n + code.length → ∀ T', D j { M with T := T' }) →
   (∀ T' b, T'.kid b = some lf → Fit wd { M with T := T' } b ∧ ∀ res, StepR P wd al rv { M with T := T' } b res → match res with
        | .go M' => All P wd al rv D false M' rest (n + code.length)
        | .skip M' => All P wd al rv D true M' rest (n + code.length)
        | .eof M' => rest.length < 8 ∧ D (n + code.length + rest.length) M') →
   All P wd al rv D false M (code ++ rest) n
  | [], _, _, _, h, _, _ => absurd rfl h
  | [b], M, n, hp, _, hD, hl => by
    obtain ⟨T', h1, h2⟩ := kid_path hp
    have e : T' = lf := Option.some.inj h2
    subst e
    refine ⟨hD n (Nat.le_refl _) (by simp) M.T, ?_⟩
    rw [if_neg (fun q => nomatch q.1)]
    exact hl M.T b h1
  | b :: b2 :: code, M, n, hp, _, hD, hl => by
    obtain ⟨T', h1, h2⟩ := kid_path hp
    obtain ⟨T2, h3, _⟩ := kid_path h2
    refine ⟨hD n (Nat.le_refl _) (by simp) M.T, ?_⟩
    rw [if_neg (fun q => nomatch q.1)]
    have hnode : ∃ l r, T' = .node l r := by
      cases T' with
      | node l r => exact ⟨l, r, rfl⟩
      | num i => cases h3
      | word s => cases h3
      | non => cases h3
    obtain ⟨l, r, rfl⟩ := hnode
    refine ⟨by unfold Fit; rw [h1]; trivial, fun res hs => ?_⟩
    unfold StepR at hs
    rw [h1] at hs
    dsimp only at hs
    subst hs
    have hlen : n + (b :: b2 :: code).length = n + 1 + (b2 :: code).length := (Nat.succ_add_eq_add_succ n (b2 :: code).length).symm
    refine path_runs (K := K) (b2 :: code) { M with T := .node l r } (n + 1) h2 (by simp) (fun j g1 g2 T4 => hD j (Nat.le_of_succ_le g1) (by rw [hlen]; exact g2) T4) fun T3 b3 h4 => ?_
    rw [hlen] at hl
    exact hl T3 b3 h4
end
theorem flR_cases {P : Params} {wd : Int} {al rv : Bool} {S1 : DS} {n1 n2 : Option Int} {res : Res} (h : FlR P wd al rv S1 n1 n2 res) : ((wd ≤ S1.cp → al = false) ∧ res = .go ⟨.md, modeT P, fin wd rv S1, n1, n2⟩) ∨ (wd ≤ S1.cp ∧ al = true ∧ res = .skip ⟨.md, modeT P, fin wd rv S1, n1, n2⟩) := h
/-- a picture's row, packed -/
def pk (rv : Bool) (row : List Int) : Array UInt8 := rowOct rv (inv row)
/-- the decoder at a row's begin -/
structure AtRow (P : Params) (wd : Int) (above : List Int) (buf : Array UInt8) (M : MS) : Prop where
  k : M.k = .md
  T : M.T = modeT P
  S : ∃ y, M.S = { cur := List.replicate wd.toNat 1, rf := inv above, cp := -1, col := 1, y := y, buf := buf }
  n12 : M.n1 = none → M.n2 = none
theorem AtRow.inRow {P : Params} {wd : Int} {row above : List Int} {buf : Array UInt8} {M : MS} (A : AtRow P wd above buf M) (hw0 : 1 ≤ wd) : InRow P wd row above buf (-1) 0 M := by
  obtain ⟨y, e⟩ := A.S
  exact ⟨A.k, A.T, by rw [e], by rw [e]; rfl, by rw [e], by rw [e]; simp; exact Int.max_eq_left (Int.le_trans (by decide) hw0), fun i hi => absurd (Int.lt_of_le_of_lt (Int.natCast_nonneg i) hi) (by decide), by rw [e], by rw [e]; exact Bits.ones _, .inl rfl, ⟨Int.le_refl _, Int.le_trans (by decide) hw0⟩, .inl ⟨rfl, rfl⟩, fun _ => by rw [e], A.n12⟩
theorem fin_at {P : Params} {wd : Int} {rv : Bool} {row above : List Int} {buf : Array UInt8} {c : Int} {S : DS} {n1 n2 : Option Int} (I : InRow P wd row above buf wd c ⟨.md, modeT P, S, n1, n2⟩) (hr : RowOk wd row) : AtRow P wd row (buf ++ pk rv row) ⟨.md, modeT P, fin wd rv S, n1, n2⟩ := by
  have hcp : S.cp = wd := I.cp
  have hlen : (S.cur.length : Int) = wd := I.len
  have hrl := hr.len
  have hcur : S.cur = inv row := by
    have el : S.cur.length = row.length := Int.ofNat_inj.1 (hlen.trans hrl.symm)
    refine list_ext (by rw [inv_len]; exact el) fun i hi => ?_
    rw [inv_getD (by rw [← el]; exact hi)]
    exact I.cur i (by rw [← hlen]; exact Int.ofNat_lt.2 hi)
  have hb : S.buf = buf := I.buf
  refine ⟨rfl, rfl, ⟨S.y + 1, ?_⟩, I.n12⟩
  show fin wd rv S = _
  rw [fin, if_pos (Int.le_of_eq hcp.symm)]
  unfold flushed pk
  rw [hcur, hb]
theorem fin_no {wd : Int} {rv : Bool} {S : DS} (h : S.cp < wd) : fin wd rv S = S := if_neg (Int.not_le.2 h)
theorem at0_nn (p : Int) : 0 ≤ at0 p := by
  unfold at0; split
  · exact Int.le_of_lt ‹_›
  · exact Int.le_refl _
theorem le_at0 (p : Int) : p ≤ at0 p := by
  unfold at0; split
  · exact Int.le_refl _
  · exact Int.not_lt.1 ‹_›
theorem at0_le {p x : Int} (h0 : 0 ≤ x) (h : p ≤ x) : at0 p ≤ x := by
  unfold at0; split <;> assumption
theorem at0_of {p : Int} (h : 0 ≤ p) : at0 p = p := Int.le_antisymm (at0_le h (Int.le_refl _)) (le_at0 p)
section
variable {P : Params} {wd : Int} {al rv : Bool}
theorem pass_step {row above : List Int} {buf : Array UInt8} {p c here there back : Int} {M : MS} {S1 : DS} {n1 n2 : Option Int} (I : InRow P wd row above buf p c M) (hw0 : 1 ≤ wd) (hr : RowOk wd row) (ha : RowOk wd above) (hp : p < wd) (h1 : NearR row p c here) (h2 : NearR above p c there) (h3 : NearR above there (1 - c) back) (h4 : back < here) (h : PassS wd M.S S1) (hn : n1 = none → n2 = none) :
   InRow P wd row above buf back c ⟨.md, modeT P, S1, n1, n2⟩ ∧ 0 ≤ back ∧ back < wd := by
  have hrl := hr.len
  have hal := ha.len
  obtain ⟨x1, x2, f1, f2, f3, f4, rfl⟩ := h
  have hm := I.hp
  have hpr : p < row.length := by rw [hrl]; exact hp
  have hpa : p < above.length := by rw [hal]; exact hp
  have h1a := one_le hal hw0
  obtain ⟨g1, g2, g3⟩ := near_le h1 (Int.le_of_lt hpr)
  obtain ⟨t1, t2, t3⟩ := near_le h2 (Int.le_of_lt hpa)
  obtain ⟨b1, b2, b3⟩ := near_le h3 t2
  have hx1 : 0 ≤ there := Int.le_trans (Int.add_le_add_right hm.1 1) (t3 hpa)
  rw [I.rf, I.col, I.cp] at f1
  obtain rfl := isFirst_uniq f1 (near_stop1 h2 hm.1 hpa h1a I.c01)
  rw [I.rf, I.col] at f3
  obtain rfl := isFirst_uniq f3 (near_stop2 h3 ha.bits hx1 t2 (fun q => near_at h2 q) h1a I.c01)
  have hx2 : 0 ≤ x2 := Int.le_trans hx1 b1
  have hxw : x2 < wd := by rw [← hrl]; exact Int.lt_of_lt_of_le h4 g2
  have hpx := Int.le_trans t1 b1
  have hrun := near_run' h1 I.hh
  refine ⟨⟨rfl, rfl, rfl, I.col, I.rf, ?_, ?_, I.buf, ?_, I.c01, ⟨Int.le_trans (by decide) hx2, Int.le_of_lt hxw⟩, .inr ⟨hx2, fun _ => ?_⟩, fun q => absurd hx2 (by rw [q]; decide), hn⟩, hx2, hxw⟩
  · show ((fillN _ _ _ _).length : Int) = wd
    rw [fillN_length]; exact I.len
  · show ∀ i : Nat, (i : Int) < x2 → (fillN M.S.cur M.S.col M.S.at0.toNat (x2 - M.S.at0).toNat).getD i 0 = _
    rw [I.at0, I.col]
    exact run_filled I.len hrl I.cur (fun i q1 q2 => hrun i q1 (Int.lt_trans q2 h4)) (Int.le_of_lt hxw) hpx
  · exact I.hb.fill (by rw [I.col]; exact flip01 I.c01) _ _
  · have ex := Int.toNat_of_nonneg hx2
    exact hrun x2.toNat (by rw [ex]; exact at0_le hx2 hpx) (by rw [ex]; exact h4)
theorem clampW_id {wd a : Int} (h0 : 0 ≤ a) (h1 : a ≤ wd) : clampW wd a = a := by
  unfold clampW
  split <;> split at * <;> omega
theorem vert_step {row above : List Int} {buf : Array UInt8} {p c here there : Int} {M : MS} {S1 : DS} {n1 n2 : Option Int} (I : InRow P wd row above buf p c M) (hw0 : 1 ≤ wd) (hr : RowOk wd row) (ha : RowOk wd above) (hp : p < wd) (h1 : NearR row p c here) (h2 : NearR above p c there) (h : VertS wd (here - there) M.S S1) (hn : n1 = none → n2 = none) :
   InRow P wd row above buf here (1 - c) ⟨.md, modeT P, S1, n1, n2⟩ ∧ 0 ≤ here ∧ here ≤ wd := by
  have hrl := hr.len
  have hal := ha.len
  obtain ⟨x1, y1, f1, f2, f3, rfl⟩ := h
  have hm := I.hp
  have hpr : p < row.length := by rw [hrl]; exact hp
  have hpa : p < above.length := by rw [hal]; exact hp
  have h1a := one_le hal hw0
  obtain ⟨g1, g2, g3⟩ := near_le h1 (Int.le_of_lt hpr)
  obtain ⟨t1, t2, t3⟩ := near_le h2 (Int.le_of_lt hpa)
  have hh0 : 0 ≤ here := Int.le_trans (Int.add_le_add_right hm.1 1) (g3 hpr)
  have hhw : here ≤ wd := by rw [← hrl]; exact g2
  rw [I.rf, I.col, I.cp] at f1
  obtain rfl := isFirst_uniq f1 (near_stop1 h2 hm.1 hpa h1a I.c01)
  rw [add_sub_to, clampW_id hh0 hhw] at f3
  subst f3
  have hrun := near_run' h1 I.hh
  have hlt : ¬ y1 < M.S.at0 := by rw [I.at0]; exact Int.not_lt.2 (at0_le hh0 g1)
  refine ⟨⟨rfl, rfl, rfl, ?_, I.rf, ?_, ?_, I.buf, ?_, ?_, ⟨Int.le_trans (by decide) hh0, hhw⟩, .inr ⟨hh0, fun q => ?_⟩, fun q => absurd hh0 (by rw [q]; decide), hn⟩, hh0, hhw⟩
  · show 1 - M.S.col = _
    rw [I.col]
  · show ((if y1 < M.S.at0 then _ else _ : List Int).length : Int) = wd
    rw [if_neg hlt, fillN_length]; exact I.len
  · show ∀ i : Nat, (i : Int) < y1 → (if y1 < M.S.at0 then _ else _ : List Int).getD i 0 = _
    rw [if_neg hlt, I.at0, I.col]
    exact run_filled I.len hrl I.cur (fun i q1 q2 => hrun i q1 q2) hhw g1
  · show Bits (if y1 < M.S.at0 then _ else _)
    rw [if_neg hlt]
    exact I.hb.fill (by rw [I.col]; exact flip01 I.c01) _ _
  · exact flip01 I.c01
  · have z1 := near_at h1 q
    have z2 := hr.bits.getD y1.toNat
    exact other_of z2 I.c01 z1
theorem roomed_fit {wd a n : Int} (h : a + n ≤ wd) : roomed wd a n = n.toNat := by
  unfold roomed
  rw [if_pos h]
theorem hor_step {row above : List Int} {buf : Array UInt8} {p c here back2 : Int} {M : MS} {n1 n2 : Option Int} (I : InRow P wd row above buf p c M) (hw0 : 1 ≤ wd) (hr : RowOk wd row) (hp : p < wd) (h1 : NearR row p c here) (h2 : NearR row here (1 - c) back2) (hn : n1 = none → n2 = none) :
   InRow P wd row above buf back2 c ⟨.md, modeT P, HorS wd (here - at0 p) (back2 - here) M.S, n1, n2⟩ ∧ 0 ≤ back2 ∧ back2 ≤ wd := by
  have hrl := hr.len
  have hm := I.hp
  have hpr : p < row.length := by rw [hrl]; exact hp
  obtain ⟨g1, g2, g3⟩ := near_le h1 (Int.le_of_lt hpr)
  obtain ⟨b1, b2, b3⟩ := near_le h2 g2
  have hh0 : 0 ≤ here := Int.le_trans (Int.add_le_add_right hm.1 1) (g3 hpr)
  have hhw : here ≤ wd := by rw [← hrl]; exact g2
  have hb0 : 0 ≤ back2 := Int.le_trans hh0 b1
  have hbw : back2 ≤ wd := by rw [← hrl]; exact b2
  have hrun := near_run' h1 I.hh
  have hh2 : Here row here (1 - c) := .inr ⟨hh0, fun q => other_of (hr.bits.getD here.toNat) I.c01 (near_at h1 q)⟩
  have hrun2 := near_run' h2 hh2
  have e0 := at0_of hh0
  have e1 : roomed wd M.S.at0 (here - at0 p) = (here - at0 p).toNat := roomed_fit (by rw [I.at0, add_sub_to]; exact hhw)
  have e2 : M.S.at0 + (roomed wd M.S.at0 (here - at0 p) : Int) = here := by rw [e1, I.at0]; exact add_toNat (at0_le hh0 g1)
  have e3 : roomed wd (M.S.at0 + (roomed wd M.S.at0 (here - at0 p) : Int)) (back2 - here) = (back2 - here).toNat := by rw [e2]; exact roomed_fit (by rw [add_sub_to]; exact hbw)
  refine ⟨⟨rfl, rfl, ?_, I.col, I.rf, ?_, ?_, I.buf, ?_, I.c01, ⟨Int.le_trans (by decide) hb0, hbw⟩, .inr ⟨hb0, fun q => ?_⟩, fun q => absurd hb0 (by rw [q]; decide), hn⟩, hb0, hbw⟩
  · show M.S.at0 + (roomed wd M.S.at0 (here - at0 p) : Int) + (roomed wd (M.S.at0 + (roomed wd M.S.at0 (here - at0 p) : Int)) (back2 - here) : Int) = back2
    rw [e3, e2]; exact add_toNat b1
  · show ((fillN _ _ _ _).length : Int) = wd
    rw [fillN_length, fillN_length]; exact I.len
  · show ∀ i : Nat, (i : Int) < back2 → (fillN (fillN M.S.cur M.S.col M.S.at0.toNat (roomed wd M.S.at0 (here - at0 p))) (1 - M.S.col) (M.S.at0 + (roomed wd M.S.at0 (here - at0 p) : Int)).toNat (roomed wd (M.S.at0 + (roomed wd M.S.at0 (here - at0 p) : Int)) (back2 - here))).getD i 0 = _
    rw [e3, e2, e1, I.at0, I.col]
    have k1 := run_filled I.len hrl I.cur (fun i q1 q2 => hrun i q1 q2) hhw g1
    have k2 := run_filled (wd := wd) (p := here) (c := 1 - c) (k := back2) (row := row) (cur := fillN M.S.cur (1 - c) (at0 p).toNat (here - at0 p).toNat) (by rw [fillN_length]; exact I.len) hrl k1 (fun i q1 q2 => hrun2 i q1 q2) hbw b1
    rw [e0] at k2
    exact k2
  · refine (I.hb.fill ?_ _ _).fill ?_ _ _
    · rw [I.col]; exact flip01 I.c01
    · rw [I.col]; exact flip01 (flip01 I.c01)
  · have z1 := near_at h2 q
    have z2 := hr.bits.getD back2.toNat
    exact other_eq z2 I.c01 z1
end

example : True := by w_top off; trivial
/-- the codes lead to their leaves -/
theorem path_p (P : Params) : (modeT P).path (strBits (Str.ofString "0001")) = some (.word (Str.ofString "p")) := by kernel_rfl
theorem path_h (P : Params) : (modeT P).path (strBits (Str.ofString "001")) = some (.word (Str.ofString "h")) := by kernel_rfl
theorem path_e (P : Params) : (modeT P).path (strBits (Str.ofString "000000000001000000000001")) = some (.word (Str.ofString "e")) := by kernel_rfl
theorem path_v (P : Params) {d : Int} (h1 : -3 ≤ d) (h2 : d ≤ 3) : (modeT P).path (strBits (stepStr d)) = some (.num d) := by
  have : d = -3 ∨ d = -2 ∨ d = -1 ∨ d = 0 ∨ d = 1 ∨ d = 2 ∨ d = 3 := upto3 h1 h2
  rcases this with rfl | rfl | rfl | rfl | rfl | rfl | rfl <;> kernel_rfl
def zerosT : Tr → Nat → Bool
  | _, 0 => true
  | .node l _, n + 1 => (match l with
    | .node _ _ => zerosT l n
    | _ => false)
  | _, _ + 1 => false
theorem zeros_m (P : Params) : zerosT (modeT P) 7 = true := by kernel_rfl
theorem path_w (P : Params) {n : Int} (h1 : 0 ≤ n) (h2 : n ≤ 12) : (runT P 1).path (strBits (runStr P 0 n)) = some (.num n) := by
  rcases upto12 h1 h2 with rfl | rfl | rfl | rfl | rfl | rfl | rfl | rfl | rfl | rfl | rfl | rfl | rfl <;> kernel_rfl
theorem path_b (P : Params) {n : Int} (h1 : 0 ≤ n) (h2 : n ≤ 12) : (runT P 0).path (strBits (runStr P 1 n)) = some (.num n) := by
  rcases upto12 h1 h2 with rfl | rfl | rfl | rfl | rfl | rfl | rfl | rfl | rfl | rfl | rfl | rfl | rfl <;> kernel_rfl
theorem path_r (P : Params) {c n : Int} (hc : c = 0 ∨ c = 1) (h1 : 0 ≤ n) (h2 : n ≤ 12) : (runT P (1 - c)).path (strBits (runStr P c n)) = some (.num n) := by
  rcases hc with rfl | rfl
  · exact path_w P h1 h2
  · exact path_b P h1 h2
theorem path_ne {T : Tr} {bs : List Bool} {lf : Tr} (h : T.path bs = some lf) (h2 : ∀ l r, lf ≠ .node l r) (h3 : T.isNode = true) : bs ≠ [] := by
  rintro rfl
  cases h
  cases T with
  | node l r => exact h2 l r rfl
  | num i => cases h3
  | word s => cases h3
  | non => cases h3
theorem mode_node (P : Params) : (modeT P).isNode = true := by kernel_rfl
theorem run_node (P : Params) {c : Int} (hc : c = 0 ∨ c = 1) : (runT P (1 - c)).isNode = true := by
  rcases hc with rfl | rfl <;> kernel_rfl
section
variable {P : Params} {wd : Int} {al rv : Bool} {D : Nat → MS → Prop}
theorem codeR_end {row above : List Int} {c : Int} {bs : List Bool} (h : CodeR P row above row.length c bs) : bs = [] := by
  generalize hp : (row.length : Int) = p at h
  cases h with
  | stop _ => rfl
  | pass h1 => exact absurd hp (Int.ne_of_gt h1)
  | vert h1 => exact absurd hp (Int.ne_of_gt h1)
  | hor h1 => exact absurd hp (Int.ne_of_gt h1)
/-- a row decoded -/
theorem row_runs {row above : List Int} {buf : Array UInt8} {rest : List Bool} {N : Nat} (hw0 : 1 ≤ wd) (hw : wd ≤ 12) (hr : RowOk wd row) (ha : RowOk wd above) (hbuf : buf.size ≤ 1000000)
  (cont : ∀ M', AtRow P wd row (buf ++ pk rv row) M' → All P wd al rv D al M' rest N)
  {p c : Int} {bs : List Bool} (hc : CodeR P row above p c bs) : ∀ (M : MS) (n : Nat), InRow P wd row above buf p c M → p < wd → (∀ j, n ≤ j → j < n + bs.length → ∀ M, M.S.buf = buf → (M.n1 = none → M.n2 = none) → D j M) → n + bs.length = N → All P wd al rv D false M (bs ++ rest) n := by
  have hrl := hr.len
  have hal := ha.len
  induction hc with
  | stop h => intro M n _ hp; exact absurd hp (Int.not_lt.2 (by rw [← hrl]; exact h))
  | @pass p c here there back bs h0 h1 h2 h3 h4 hc ih =>
    intro M n I hp hD hN
    rw [List.append_assoc]
    rw [List.length_append] at hD hN
    refine path_runs (K := fun _ _ => True) (lf := .word (Str.ofString "p")) _ M n (by rw [I.T]; exact path_p P) (path_ne (path_p P) (fun _ _ q => nomatch q) (mode_node P)) (fun j g1 g2 T' => hD j g1 (in_l g2) _ I.buf I.n12) fun T' b hk => ?_
    refine ⟨by unfold Fit; rw [hk]; exact ⟨I.k, .inl ⟨rfl, I.ok hw0 hw ha hp, by show M.S.buf.size ≤ _; rw [I.buf]; exact hbuf⟩⟩, fun res hs => ?_⟩
    unfold StepR at hs
    rw [hk] at hs
    dsimp only at hs
    rw [if_pos rfl] at hs
    obtain ⟨S1, hP, hF⟩ := hs
    obtain ⟨I2, b0, b1⟩ := pass_step (n1 := M.n1) (n2 := M.n2) I hw0 hr ha hp h1 h2 h3 h4 hP I.n12
    have hcp : S1.cp = back := I2.cp
    rcases flR_cases hF with ⟨_, rfl⟩ | ⟨q, _⟩
    · rw [fin_no (by rw [hcp]; exact b1)]
      exact ih _ _ I2 b1 (fun j g1 g2 => hD j (lo_n g1) (in_r g2)) (sumN hN)
    · exact absurd q (Int.not_le.2 (by rw [hcp]; exact b1))
  | @vert p c here there back bs h0 h1 h2 h3 h4 h5 h6 hc ih =>
    intro M n I hp hD hN
    rw [List.append_assoc]
    rw [List.length_append] at hD hN
    refine path_runs (K := fun _ _ => True) (lf := .num (here - there)) _ M n (by rw [I.T]; exact path_v P h5 h6) (path_ne (path_v P h5 h6) (fun _ _ q => nomatch q) (mode_node P)) (fun j g1 g2 T' => hD j g1 (in_l g2) _ I.buf I.n12) fun T' b hk => ?_
    have hkm := I.k
    refine ⟨by unfold Fit; rw [hk]; dsimp only; rw [hkm]; exact ⟨I.ok hw0 hw ha hp, by show M.S.buf.size ≤ _; rw [I.buf]; exact hbuf, h5, h6⟩, fun res hs => ?_⟩
    unfold StepR at hs
    rw [hk] at hs
    dsimp only at hs
    rw [hkm] at hs
    dsimp only at hs
    obtain ⟨S1, hV, hF⟩ := hs
    obtain ⟨I2, b0, b1⟩ := vert_step (n1 := M.n1) (n2 := M.n2) I hw0 hr ha hp h1 h2 hV I.n12
    have hcp : S1.cp = here := I2.cp
    by_cases hlt : here < wd
    · rcases flR_cases hF with ⟨_, rfl⟩ | ⟨q, _⟩
      · rw [fin_no (by rw [hcp]; exact hlt)]
        exact ih _ _ I2 hlt (fun j g1 g2 => hD j (lo_n g1) (in_r g2)) (sumN hN)
      · exact absurd q (Int.not_le.2 (by rw [hcp]; exact hlt))
    · have he : here = wd := Int.le_antisymm b1 (Int.not_lt.1 hlt)
      subst he
      have hbs : bs = [] := codeR_end (by rw [hrl]; exact hc)
      subst hbs
      have hA := fin_at (rv := rv) I2 hr
      rcases flR_cases hF with ⟨q, rfl⟩ | ⟨_, q, rfl⟩
      · have := cont _ hA
        rw [q (Int.le_of_eq hcp.symm)] at this
        simp only [List.nil_append]
        rw [show n + (strBits (stepStr (here - there))).length = N from hN]
        rw [q (Int.le_of_eq hcp.symm)]
        exact this
      · have := cont _ hA
        rw [q] at this
        simp only [List.nil_append]
        rw [show n + (strBits (stepStr (here - there))).length = N from hN]
        rw [q]
        exact this
  | @hor p c here there back back2 bs h0 h1 h2 h3 h4 h5 h6 hc ih =>
    intro M n I hp hD hN
    rw [show (if p > 0 then p else 0) = at0 p from rfl] at hD hN ⊢
    rw [List.append_assoc, List.append_assoc, List.append_assoc]
    rw [List.length_append, List.length_append, List.length_append] at hD hN
    have hkm := I.k
    have hm := I.hp
    have hpr : p < row.length := by rw [hrl]; exact hp
    obtain ⟨g1, g2, g3⟩ := near_le h1 (Int.le_of_lt hpr)
    obtain ⟨b1, b2, b3⟩ := near_le h6 g2
    have hh0 : 0 ≤ here := Int.le_trans (Int.add_le_add_right hm.1 1) (g3 hpr)
    have i1 := Int.sub_nonneg_of_le (at0_le hh0 g1)
    have i2 := Int.le_trans (Int.sub_le_self here (at0_nn p)) (Int.le_trans g2 (by rw [hrl]; exact hw))
    have j1 := Int.sub_nonneg_of_le b1
    have j2 := Int.le_trans (Int.sub_le_self back2 hh0) (Int.le_trans b2 (by rw [hrl]; exact hw))
    have e1 := path_r P I.c01 i1 i2
    have hc' := flip01 I.c01
    have e2 := path_r P hc' j1 j2
    rw [Int.sub_sub_self 1 c] at e2
    have n2' := run_node P hc'
    rw [Int.sub_sub_self 1 c] at n2'
    refine path_runs (K := fun _ _ => True) (lf := .word (Str.ofString "h")) _ M n (by rw [I.T]; exact path_h P) (path_ne (path_h P) (fun _ _ q => nomatch q) (mode_node P)) (fun j g1 g2 T' => hD j g1 (in_l g2) _ I.buf I.n12) fun T' b hk => ?_
    have hcol : M.S.col = 0 ∨ M.S.col = 1 := by rw [I.col]; exact hc'
    refine ⟨by unfold Fit; rw [hk]; exact ⟨I.k, .inr (.inl ⟨rfl, hcol, I.n12⟩)⟩, fun res hs => ?_⟩
    unfold StepR at hs
    rw [hk] at hs
    dsimp only at hs
    rw [if_neg (by decide +kernel), if_pos rfl] at hs
    subst hs
    (try dsimp only)
    -- the first run
    refine path_runs (K := fun _ _ => True) (lf := .num (here - at0 p)) _ _ _ (by show (runT P M.S.col).path _ = _; rw [I.col]; exact e1) (path_ne e1 (fun _ _ q => nomatch q) (run_node P I.c01)) (fun j g1 g2 T' => hD j (lo_n g1) (in_r (in_l g2)) _ I.buf (fun q => nomatch q)) fun T' b hk => ?_
    refine ⟨by unfold Fit; rw [hk]; exact ⟨⟨0, rfl⟩, Int.lt_of_le_of_lt i2 (by decide), hcol⟩, fun res hs => ?_⟩
    unfold StepR at hs
    rw [hk] at hs
    dsimp only at hs
    subst hs
    (try dsimp only)
    -- the second run
    refine path_runs (K := fun _ _ => True) (lf := .num (back2 - here)) _ _ _ (by show (runT P (1 - M.S.col)).path _ = _; rw [I.col, Int.sub_sub_self 1 c]; exact e2) (path_ne e2 (fun _ _ q => nomatch q) n2') (fun j g1 g2 T' => hD j (lo_n (lo_n g1)) (in_r (in_r (in_l g2))) _ I.buf (fun q => nomatch q)) fun T' b hk => ?_
    have htt : M.S.turn.turn = M.S := by
      show ({ M.S with col := 1 - (1 - M.S.col) } : DS) = M.S
      rw [Int.sub_sub_self]
    refine ⟨?_, fun res hs => ?_⟩
    · unfold Fit
      rw [hk]
      (try dsimp only)
      rw [htt]
      exact ⟨I.ok hw0 hw ha hp, by show M.S.buf.size ≤ _; rw [I.buf]; exact hbuf, Int.lt_of_le_of_lt j2 (by decide), _, _, rfl, rfl, by simp only [Option.getD_some, Int.zero_add]; exact i1, by simp only [Option.getD_some, Int.zero_add]; exact Int.le_trans i2 (by decide), by rw [Int.zero_add]; exact j1, by rw [Int.zero_add]; exact Int.le_trans j2 (by decide)⟩
    unfold StepR at hs
    rw [hk] at hs
    dsimp only at hs
    rw [htt] at hs
    simp only [Option.getD_some, Int.zero_add] at hs
    obtain ⟨I2, c0, c1⟩ := hor_step (n1 := some (here - at0 p)) (n2 := some (back2 - here)) I hw0 hr hp h1 h6 (fun q => nomatch q)
    generalize HorS wd (here - at0 p) (back2 - here) M.S = S1 at hs I2
    have hcp : S1.cp = back2 := I2.cp
    by_cases hlt : back2 < wd
    · rcases flR_cases hs with ⟨_, rfl⟩ | ⟨q, _⟩
      · rw [fin_no (by rw [hcp]; exact hlt)]
        exact ih _ _ I2 hlt (fun j g1 g2 => hD j (lo_n (lo_n (lo_n g1))) (in_r (in_r (in_r g2)))) (sumN (sumN (sumN hN)))
      · exact absurd q (Int.not_le.2 (by rw [hcp]; exact hlt))
    · have he : back2 = wd := Int.le_antisymm c1 (Int.not_lt.1 hlt)
      subst he
      have hbs : bs = [] := codeR_end (by rw [hrl]; exact hc)
      subst hbs
      have hA := fin_at (rv := rv) I2 hr
      have hN' : n + (strBits (Str.ofString "001")).length + (strBits (runStr P c (here - at0 p))).length + (strBits (runStr P (1 - c) (back2 - here))).length = N := sumN (sumN hN)
      rcases flR_cases hs with ⟨q, rfl⟩ | ⟨_, q, rfl⟩
      · have := cont _ hA
        rw [q (Int.le_of_eq hcp.symm)] at this
        simp only [List.nil_append]
        rw [hN', q (Int.le_of_eq hcp.symm)]
        exact this
      · have := cont _ hA
        rw [q] at this
        simp only [List.nil_append]
        rw [hN', q]
        exact this
end

example : True := by w_top off; trivial
/-- what is due when n bits have come in -/
def due (rv : Bool) : Array UInt8 → List (List Int) → List Int → Int → Array UInt8
  | b, row :: rows, e :: ends, n => if e ≤ n then due rv (b ++ pk rv row) rows ends n else b
  | b, [], _, _ => b
  | b, _ :: _, [], _ => b
def padN (al : Bool) (n : Nat) : Nat := if al then (8 - n % 8) % 8 else 0
/-- a picture's coding -/
inductive PicR (P : Params) (al : Bool) : List (List Int) → List Int → Nat → List Bool → List Int → Prop where
  | nil {above : List Int} {n : Nat} : PicR P al [] above n [] []
  | cons {row above : List Int} {rows : List (List Int)} {n : Nat} {b bits : List Bool} {ends : List Int} : CodeR P row above (-1) 0 b → PicR P al rows row (n + b.length + padN al (n + b.length)) bits ends →
     PicR P al (row :: rows) above n (b ++ (List.replicate (padN al (n + b.length)) false ++ bits)) (((n + b.length : Nat) : Int) :: ends)
/-- what is asked at a place of the bits -/
def AskD (rv : Bool) (base : Array UInt8) (rows : List (List Int)) (ends : List Int) (n : Nat) (M : MS) : Prop := M.S.buf = due rv base rows ends n ∧ (M.n1 = none → M.n2 = none)
theorem pk_size (rv : Bool) {wd : Int} {row : List Int} (h : RowOk wd row) (hw : wd ≤ 12) : (pk rv row).size ≤ 2 := by
  have hl := h.len
  have hb : Bits (if rv = true then (inv row).map (fun b => 1 - b) else inv row) := by
    cases rv
    · exact h.bits.flip
    · exact h.bits.flip.flip
  have hlen : (if rv = true then (inv row).map (fun b => 1 - b) else inv row).length = row.length := by
    cases rv
    · exact inv_len _
    · rw [if_pos rfl, List.length_map, inv_len]
  unfold pk rowOct
  rw [byteArr_size, packs_eq _ _ hb (by rw [hlen, inv_len]; exact le_up8 _), List.length_map, List.length_range, inv_len]
  exact up8_le2 (le12 hl hw)
section
variable {P : Params} {wd : Int} {al rv : Bool} {D : Nat → MS → Prop}
theorem all_sleep {M : MS} {bs : List Bool} {n : Nat} (hn : n % 8 = 0) (h : All P wd al rv D false M bs n) : All P wd al rv D true M bs n := by
  cases bs with
  | nil => exact h
  | cons b bs =>
    refine ⟨h.1, ?_⟩
    have h2 := h.2
    rw [if_neg (fun q => nomatch q.1)] at h2
    rw [if_neg (fun q => q.2 hn)]
    exact h2
theorem all_pad {M : MS} {rest : List Bool} {N : Nat} (hN : N % 8 = 0) (h : All P wd al rv D false M rest N) : ∀ (xs : List Bool) (n : Nat), n + xs.length = N → N < n + 8 → (∀ j, n ≤ j → j < N → D j M) → All P wd al rv D true M (xs ++ rest) n
  | [], n, hn, _, _ => by
    have e : n = N := by simpa using hn
    subst e
    exact all_sleep hN h
  | x :: xs, n, hn, hl, hD => by
    rw [List.length_cons] at hn
    refine ⟨hD n (Nat.le_refl _) (hn ▸ Nat.lt_add_of_pos_right (Nat.succ_pos _)), ?_⟩
    rw [if_pos ⟨rfl, mod8_ne hN hn hl⟩]
    exact all_pad hN h xs (n + 1) ((Nat.succ_add_eq_add_succ _ _).trans hn) (Nat.lt_trans hl (Nat.add_lt_add_right (Nat.lt_succ_self n) 8)) (fun j g1 g2 => hD j (Nat.le_of_succ_le g1) g2)
theorem zeros_all : ∀ (q : Nat) (M : MS) (n : Nat), zerosT M.T q = true → (∀ j T', n ≤ j → D j { M with T := T' }) → All P wd al rv D false M (List.replicate q false) n
  | 0, M, n, _, hD => hD n M.T (Nat.le_refl _)
  | q + 1, M, n, hz, hD => by
    cases hT : M.T with
    | node l r =>
      rw [hT] at hz
      unfold zerosT at hz
      cases l with
      | node l1 l2 =>
        refine ⟨hD n M.T (Nat.le_refl _), ?_⟩
        rw [if_neg (fun q => nomatch q.1)]
        have hk : M.T.kid false = some (.node l1 l2) := by rw [hT]; rfl
        refine ⟨by unfold Fit; rw [hk]; trivial, fun res hs => ?_⟩
        unfold StepR at hs
        rw [hk] at hs
        dsimp only at hs
        subst hs
        exact zeros_all q { M with T := .node l1 l2 } (n + 1) hz (fun j T' g => hD j T' (Nat.le_of_succ_le g))
      | num i => cases hz
      | word s => cases hz
      | non => cases hz
    | num i => rw [hT] at hz; cases hz
    | word s => rw [hT] at hz; cases hz
    | non => rw [hT] at hz; cases hz
theorem zerosT_le : ∀ (q k : Nat) (T : Tr), zerosT T q = true → k ≤ q → zerosT T k = true
  | _, 0, T, _, _ => by cases T <;> rfl
  | 0, k + 1, _, _, h => absurd h (Nat.not_succ_le_zero k)
  | q + 1, k + 1, T, hz, h => by
    cases T with
    | node l r =>
      unfold zerosT at hz ⊢
      cases l with
      | node l1 l2 => exact zerosT_le q k _ hz (Nat.le_of_succ_le_succ h)
      | num i => cases hz
      | word s => cases hz
      | non => cases hz
    | num i => cases hz
    | word s => cases hz
    | non => cases hz
def eofB : List Bool := strBits (Str.ofString "000000000001000000000001")
theorem tail_all (ended : Bool) {q : Nat} (hq : q < 8) {M : MS} {n : Nat} (hk : M.k = .md) (hT : M.T = modeT P) (hD : ∀ j T', n ≤ j → D j { M with T := T' }) : All P wd al rv D false M ((if ended then eofB else []) ++ List.replicate q false) n := by
  cases ended with
  | false =>
    rw [if_neg (by decide), List.nil_append]
    exact zeros_all q M n (by rw [hT]; exact zerosT_le 7 q _ (zeros_m P) (Nat.le_of_lt_succ hq)) hD
  | true =>
    rw [if_pos rfl]
    refine path_runs (K := fun _ _ => True) (lf := .word (Str.ofString "e")) _ M n (by rw [hT]; exact path_e P) (path_ne (path_e P) (fun _ _ q => nomatch q) (mode_node P)) (fun j g1 _ T' => hD j T' g1) fun T' b hkid => ?_
    refine ⟨by unfold Fit; rw [hkid]; exact ⟨hk, .inr (.inr rfl)⟩, fun res hs => ?_⟩
    unfold StepR at hs
    rw [hkid] at hs
    dsimp only at hs
    rw [if_neg (by decide +kernel), if_neg (by decide +kernel)] at hs
    subst hs
    refine ⟨by rw [List.length_replicate]; exact hq, hD _ _ (Nat.le_trans (Nat.le_add_right _ _) (Nat.le_add_right _ _))⟩
theorem pic_runs (hw0 : 1 ≤ wd) (hw : wd ≤ 12) (ended : Bool) {q : Nat} (hq : q < 8) {rows : List (List Int)} {above : List Int} {n : Nat} {bits : List Bool} {ends : List Int} (hp : PicR P al rows above n bits ends) :
   ∀ (M : MS) (buf : Array UInt8), (∀ r ∈ rows, RowOk wd r) → RowOk wd above → AtRow P wd above buf M → buf.size + 2 * rows.length ≤ 1000000 → (∀ j M, n ≤ j → AskD rv buf rows ends j M → D j M) →
   All P wd al rv D false M (bits ++ ((if ended then eofB else []) ++ List.replicate q false)) n := by
  induction hp with
  | nil =>
    intro M buf hr ha A hs hD
    obtain ⟨y, e⟩ := A.S
    exact tail_all ended hq A.k A.T fun j T' g => hD j _ g ⟨by show M.S.buf = _; rw [e]; rfl, A.n12⟩
  | @cons row above rows n b bits ends hc hp ih =>
    intro M buf hr ha A hs hD
    have hr0 := hr row (.head _)
    rw [List.length_cons] at hs
    rw [List.append_assoc]
    refine row_runs (rest := (List.replicate (padN al (n + b.length)) false ++ bits) ++ ((if ended then eofB else []) ++ List.replicate q false)) (buf := buf) (N := n + b.length) hw0 hw hr0 ha (Nat.le_trans (Nat.le_add_right _ _) hs) (fun M' A' => ?_) hc M n (A.inRow hw0) (Int.lt_of_lt_of_le (by decide) hw0) (fun j g1 g2 M2 hb2 hn2 => hD j M2 g1 ⟨?_, hn2⟩) rfl
    · have hps := pk_size rv hr0 hw
      have hD2 : ∀ j M2, n + b.length ≤ j → AskD rv (buf ++ pk rv row) rows ends j M2 → D j M2 := fun j M2 g h => hD j M2 (lo_n g) ⟨by
        rw [h.1]
        show _ = if ((n + b.length : Nat) : Int) ≤ j then _ else _
        rw [if_pos (Int.ofNat_le.2 g)], h.2⟩
      have hA := ih M' (buf ++ pk rv row) (fun r h => hr r (.tail _ h)) hr0 A' (by rw [Array.size_append]; exact size_step hps hs) (fun j M2 g h => hD2 j M2 (lo_n g) h)
      rw [List.append_assoc]
      cases al with
      | false =>
        have e0 : padN false (n + b.length) = 0 := rfl
        rw [e0] at hA ⊢
        simpa using hA
      | true =>
        have e0 : padN true (n + b.length) = (8 - (n + b.length) % 8) % 8 := rfl
        refine all_pad (N := n + b.length + padN true (n + b.length)) (by rw [e0]; exact pad8 _) hA _ _ (by rw [List.length_replicate]) (by rw [e0]; exact Nat.add_lt_add_left (Nat.mod_lt _ (by decide)) _) fun j g1 g2 => hD2 j M' g1 ⟨?_, A'.n12⟩
        obtain ⟨y, e⟩ := A'.S
        rw [e]
        show buf ++ pk rv row = _
        cases hp with
        | nil => rfl
        | @cons row2 _ rows2 _ b2 bits2 ends2 hc2 _ =>
          show _ = if ((n + b.length + padN true (n + b.length) + b2.length : Nat) : Int) ≤ j then _ else _
          rw [if_neg (Int.not_le.2 (Int.ofNat_lt.2 (Nat.lt_of_lt_of_le g2 (Nat.le_add_right _ _))))]
    · rw [hb2]
      show _ = if ((n + b.length : Nat) : Int) ≤ j then _ else _
      rw [if_neg (Int.not_le.2 (Int.ofNat_lt.2 g2))]
end

example : True := by w_top off; trivial
/-- eight signs as an octet -/
def valB (bs : List Bool) : Int := bs.foldl (fun a b => 2 * a + if b then 1 else 0) 0
theorem valB_snoc (bs : List Bool) (b : Bool) : valB (bs ++ [b]) = 2 * valB bs + if b then 1 else 0 := by
  simp [valB, List.foldl_append]
def octOf (v : Int) : UInt8 := v.toNat.toUInt8
theorem oct_all : ∀ b0 b1 b2 b3 b4 b5 b6 b7 : Bool, octBits (octOf (valB [b0, b1, b2, b3, b4, b5, b6, b7])) = [b0, b1, b2, b3, b4, b5, b6, b7] := by decide +kernel
theorem val_all : ∀ b0 b1 b2 b3 b4 b5 b6 b7 : Bool, 0 ≤ valB [b0, b1, b2, b3, b4, b5, b6, b7] ∧ valB [b0, b1, b2, b3, b4, b5, b6, b7] < 256 := by decide +kernel
theorem eight {bs : List Bool} (h : bs.length = 8) : ∃ b0 b1 b2 b3 b4 b5 b6 b7, bs = [b0, b1, b2, b3, b4, b5, b6, b7] := by
  match bs, h with
  | [b0, b1, b2, b3, b4, b5, b6, b7], _ => exact ⟨b0, b1, b2, b3, b4, b5, b6, b7, rfl⟩
theorem octBits_val {bs : List Bool} (h : bs.length = 8) : octBits (octOf (valB bs)) = bs := by
  obtain ⟨b0, b1, b2, b3, b4, b5, b6, b7, rfl⟩ := eight h
  exact oct_all ..
theorem val_in {bs : List Bool} (h : bs.length = 8) : 0 ≤ valB bs ∧ valB bs < 256 := by
  obtain ⟨b0, b1, b2, b3, b4, b5, b6, b7, rfl⟩ := eight h
  exact val_all ..
/-- the octets of a row of signs -/
def octsOf (bs : List Bool) (k : Nat) : List Int := (List.range k).map fun i => valB ((bs.drop (8 * i)).take 8)
theorem octsOf_succ (bs : List Bool) (k : Nat) : octsOf bs (k + 1) = octsOf bs k ++ [valB ((bs.drop (8 * k)).take 8)] := by
  simp [octsOf, List.range_succ]
theorem octsOf_len (bs : List Bool) (k : Nat) : (octsOf bs k).length = k := by simp [octsOf]
theorem octsOf_get {bs : List Bool} {k i : Nat} (h : i < k) : (octsOf bs k)[i]? = some (valB ((bs.drop (8 * i)).take 8)) := by
  unfold octsOf
  rw [List.getElem?_map, List.getElem?_range h]; rfl
theorem octsOf_bits {bs : List Bool} {k i : Nat} (hl : bs.length = 8 * k) (h : i < k) : octBits (octOf (valB ((bs.drop (8 * i)).take 8))) ++ bs.drop (8 * (i + 1)) = bs.drop (8 * i) := by
  rw [octBits_val (by rw [List.length_take, List.length_drop]; omega), show 8 * (i + 1) = 8 * i + 8 by omega, ← List.drop_drop]
  exact List.take_append_drop 8 _
theorem octsOf_in {bs : List Bool} {k : Nat} (hl : bs.length = 8 * k) : ∀ v ∈ octsOf bs k, 0 ≤ v ∧ v < 256 := by
  intro v hv
  obtain ⟨i, hi, rfl⟩ := List.mem_map.mp hv
  exact val_in (by rw [List.length_take, List.length_drop]; have := List.mem_range.mp hi; omega)

example : True := by w_top off; trivial
theorem step_item {d k : Int} {t0 t1 t2 t3 t4 t5 t6 : Tok} (h1 : -3 ≤ d) (h2 : d ≤ 3) (hk : k = d + 3) : ∃ t, (#[.str (Str.ofString "0000010") t0, .str (Str.ofString "000010") t1, .str (Str.ofString "010") t2, .str (Str.ofString "1") t3, .str (Str.ofString "011") t4, .str (Str.ofString "000011") t5, .str (Str.ofString "0000011") t6] : Array Value)[k.toNat]? = some (.str (stepStr d) t) := by
  subst hk
  have : d = -3 ∨ d = -2 ∨ d = -1 ∨ d = 0 ∨ d = 1 ∨ d = 2 ∨ d = 3 := upto3 h1 h2
  rcases this with rfl | rfl | rfl | rfl | rfl | rfl | rfl <;> exact ⟨_, rfl⟩
section
variable {w : World} {mean : ExcName → Option Value} {mg mb : Str → Option Value} {dp un : Nat} {gd : Option (List Code)} {cn : Str} {cs : Scope} {a : Addr} {ccd : Value} {cl : List (Str × Addr)} {outer : List Env} {A₀ : Around} {base h₀ : Heap} {L : Addr} {m : Str → Option Value} {s : Shared} {Q E : Value → Shared → Prop}
theorem steps_tells (C : Cx w mean mg mb cs outer A₀ base h₀ L m s.heap) (hdp : dp + 2 < recursionLimit) (hun : un + 30 < cLine)
 (hret : ∀ l its nn h' tk', (∀ d k : Int, -3 ≤ d → d ≤ 3 → k = d + 3 → ∃ t, its[k.toNat]? = some (.str (stepStr d) t)) → Aft s.heap h' [] [(l, listOf its nn)] → Q (.ref l) { s with heap := h', toks := tk' }) :
 wpAny (model PG w) (ktrTop dp un gd cn cs L a ccd cl outer) (call (.ref 566) []) Q E s := by
  obtain ⟨B, F, X, T, hk⟩ := C
  have N : News h₀ L s.heap [] := fun p hp => nomatch hp
  cell_step
  intro g' L' h' FG' F' N' B' X' T' G'
  have F1 : Fr g' L' h' (fun y => List.lookup y []) := F'
  clear F'
  (try dsimp only)
  (try k_fold)
  ktr_step
  (rename Fr _ _ _ _ => lF)
  (rename News _ _ _ _ => lN)
  (try dsimp only)
  refine leaveK_ lF lN fun kF kN => ?_
  exact hret _ _ _ _ _ (fun d k h1 h2 h3 => step_item h1 h2 h3) (aft_of (old := []) N G' lF lN)
end
theorem aft_add {g h h' : Heap} {L : Addr} {m : Str → Option Value} {old new : List (Addr × Obj)} (F : Fr g L h m) (N : News g L h old) (D : Aft h h' [] new) : Fr g L h' m ∧ News g L h' (new ++ old) := by
  refine ⟨fr_aft F N (fun _ h => absurd h List.not_mem_nil) D, fun p hp => ?_⟩
  rcases List.mem_append.mp hp with z | z
  · exact news_aft F N (fun _ h => absurd h List.not_mem_nil) D p z
  · exact news_rest N (fun _ _ h => absurd h List.not_mem_nil) D p z
theorem item_at {prog : Program} {w : World} {A : Around} {E : Value → Shared → Prop} {s : Shared} {h₀ : Heap} {L : Addr} {cells : List (Addr × Obj)} {l : Addr} {its : Array Value} {nn : Nat} {k : Int} {u : Tok} {v : Value} {value slice : PySem.Expr} {Q : Value → Shared → Prop} (N : News h₀ L s.heap cells) (hm : (l, listOf its nn) ∈ cells) (h0 : 0 ≤ k) (hk : k < 2 ^ 63) (hv : its[k.toNat]? = some v) (h : Q v s)
   (hs : subscripted slice false (.ref l) (.int k u) = operate [.ref l, .int k u] (getItem (.ref l) (.int k u)) := by with_unfolding_all rfl) : wpAny (model prog w) A (subscriptTail value slice (.ref l) (.int k u)) Q E s :=
  have hl : s.heap.IsList l its := ⟨_, (N _ hm).1, rfl, nn, rfl⟩
  tail_any hl.typeIs slot_list_getitem.lookup (wpAny_getItem_list hl h0 hk hv h) hs
theorem item_in {prog : Program} {w : World} {A : Around} {E : Value → Shared → Prop} {s : Shared} {h₀ : Heap} {L : Addr} {m : Str → Option Value} {K : Frag} {l : Addr} {its : Array Value} {nn : Nat} {k : Int} {u : Tok} {v : Value} {value slice : PySem.Expr} {Q : Value → Shared → Prop} (X : K.In h₀) (F : Fr h₀ L s.heap m) (hn : K.lookup l = some (listOf its nn)) (h0 : 0 ≤ k) (hk : k < 2 ^ 63) (hv : its[k.toNat]? = some v) (h : Q v s)
   (hs : subscripted slice false (.ref l) (.int k u) = operate [.ref l, .int k u] (getItem (.ref l) (.int k u)) := by with_unfolding_all rfl) : wpAny (model prog w) A (subscriptTail value slice (.ref l) (.int k u)) Q E s :=
  have hl : s.heap.IsList l its := ⟨_, F.keep _ _ (X _ _ hn), rfl, nn, rfl⟩
  tail_any hl.typeIs slot_list_getitem.lookup (wpAny_getItem_list hl h0 hk hv h) hs
theorem step_len {d : Int} (h1 : -3 ≤ d) (h2 : d ≤ 3) : (stepStr d).length ≤ 1000 := by
  have : d = -3 ∨ d = -2 ∨ d = -1 ∨ d = 0 ∨ d = 1 ∨ d = 2 ∨ d = 3 := upto3 h1 h2
  rcases this with rfl | rfl | rfl | rfl | rfl | rfl | rfl <;> decide +kernel
theorem step_len9 {d : Int} (h1 : -3 ≤ d) (h2 : d ≤ 3) : (stepStr d).length ≤ 9 := by
  have : d = -3 ∨ d = -2 ∨ d = -1 ∨ d = 0 ∨ d = 1 ∨ d = 2 ∨ d = 3 := upto3 h1 h2
  rcases this with rfl | rfl | rfl | rfl | rfl | rfl | rfl <;> decide +kernel
theorem len_vert {x y : Str} {pl back : Int} (h : (x.length : Int) ≤ 1000 * (pl + 1)) (hy : y.length ≤ 9) (hb : pl < back) : ((x ++ y).length : Int) ≤ 1000 * (back + 1) := by
  rw [len_app]
  exact len_up h (Nat.le_trans hy (by decide)) hb
inductive RunTab (P : Params) (c n : Int) : Prop where
  | intro : ∀ its nn l its2 nn2 t, (hd.heap_39 P).lookup 569 = some (listOf its nn) → its[c.toNat]? = some (.ref l) → (hd.heap_39 P).lookup l = some (listOf its2 nn2) → its2[n.toNat]? = some (.str (runStr P c n) t) → (runStr P c n).length ≤ 20 → RunTab P c n
/-- the table of the runs, as it lies -/
theorem run_tab (P : Params) {c n : Int} (hc : c = 0 ∨ c = 1) (h0 : 0 ≤ n) (h1 : n ≤ 12) : RunTab P c n := by
  have := upto12 h0 h1
  rcases hc with rfl | rfl
  · rcases this with rfl | rfl | rfl | rfl | rfl | rfl | rfl | rfl | rfl | rfl | rfl | rfl | rfl <;> exact ⟨_, _, _, _, _, _, rfl, rfl, rfl, rfl, of_decide_eq_true (by kernel_rfl)⟩
  · rcases this with rfl | rfl | rfl | rfl | rfl | rfl | rfl | rfl | rfl | rfl | rfl | rfl | rfl <;> exact ⟨_, _, _, _, _, _, rfl, rfl, rfl, rfl, of_decide_eq_true (by kernel_rfl)⟩

local macro_rules | `(tactic| ktr_enter) => `(tactic| ((try k_fold); repeat' (first | (k_unfold; (try dsimp only)) | ((fail_if_success (first | tb_start | with_reducible first | show RaiseQ _ _ _ _ _ | show wpAny _ _ (leaving _ _) _ _ _ | show wpAny _ _ (call (Value.ref _) _) _ _ _ | show wpAny _ _ (subscriptTail _ _ (Value.ref _) (Value.int _ _)) _ _ _)); first | keq_hits | kct_strs | walk1 | (dsimp only; walk1))); all_goals (try (dsimp only; k_unfold; (try dsimp only)))))

example : True := by w_top off; trivial
section
variable {w : World} {mean : ExcName → Option Value} {mg mb : Str → Option Value} {dp un : Nat} {gd : Option (List Code)} {cn : Str} {cs : Scope} {a : Addr} {ccd : Value} {cl : List (Str × Addr)} {outer : List Env} {A₀ : Around} {base h₀ : Heap} {L : Addr} {m : Str → Option Value} {s : Shared} {Q E : Value → Shared → Prop}
theorem three_off {z a b c : Str} (h : [a, b, c].contains z = false) : z ≠ a ∧ z ≠ b ∧ z ≠ c := by
  refine ⟨?_, ?_, ?_⟩ <;> (rintro rfl; simp at h)
theorem coded_tells (rw ab : Nat) (nr na : Nat) (vr va : List Value) (row above : List Int) (wd : Int)
 (C : Cx w mean mg mb cs outer A₀ base h₀ L m s.heap) (N : News h₀ L s.heap [(rw, listOf vr.toArray nr), (ab, listOf va.toArray na)]) (hir : IntsAre vr row) (hia : IntsAre va above) (hlr : (row.length : Int) = wd) (hla : (above.length : Int) = wd) (hw0 : 1 ≤ wd) (hw : wd ≤ 12) (hdp : dp + 5 < recursionLimit) (hun : un + 60 < cLine)
 (hret : ∀ cd t h' tk', CodeR w.params row above (-1) 0 (strBits cd) → (cd.length : Int) ≤ 1000 * (wd + 1) → (∀ b o, s.heap.get? b = some o → h'.get? b = some o) → Q (.str cd t) { s with heap := h', toks := tk' }) :
 wpAny (model PG w) (ktrTop dp un gd cn cs L a ccd cl outer) (call (.ref 588) [.ref rw, .ref ab]) Q E s := by
  obtain ⟨B, F, X, T, hk⟩ := C
  have hl1 : vr.length = row.length := hir.length
  have hdp0 : dp < 1000 := dn (c := 0) hdp (Nat.zero_le _)
  have hz63 : (row.length : Int) < 2 ^ 63 := by rw [hlr]; exact w63 hw (Int.le_refl _)
  cell_step
  intro g' L' h' FG' F' N' B' X' T' G'
  have F1 : Fr g' L' h' (fun y => List.lookup y [(Str.ofString "above", Value.ref ab), (Str.ofString "row", Value.ref rw)]) := F'
  clear F'
  (try dsimp only)
  (try k_fold)
  ktr_enter
  (rename Fr _ _ _ _ => lF)
  (rename News _ _ _ _ => lN)
  with_unfolding_all
   refine' ksw_while (σ := (Str × Tok) × (Int × Tok) × (Int × Tok)) (fun _ => [(rw, listOf vr.toArray nr), (ab, listOf va.toArray na)])
      (fun q => [(Str.ofString "colour", .int q.2.2.1 q.2.2.2), (Str.ofString "place", .int q.2.1.1 q.2.1.2), (Str.ofString "code", .str q.1.1 q.1.2)]) (fun _ => True) [Str.ofString "here", Str.ofString "there", Str.ofString "back"] (fun q => -1 ≤ q.2.1.1 ∧ q.2.1.1 ≤ wd ∧ (q.2.2.1 = 0 ∨ q.2.2.1 = 1) ∧ (q.1.1.length : Int) ≤ 1000 * (q.2.1.1 + 1) ∧ ∀ bs, CodeR w.params row above q.2.1.1 q.2.2.1 bs → CodeR w.params row above (-1) 0 (strBits q.1.1 ++ bs)) (fun q => (wd - q.2.1.1).toNat) ((_, _), (-1, _), (0, _)) lF (news_sub lN (by k_allIn)) trivial ?kk ?kp ?turn ?he
  case he => passes_own
  case kk => kst_all
  case kp => exact ⟨Int.le_refl _, (show (-1 : Int) ≤ wd from Int.le_trans (by decide) hw0), .inl rfl, by (show ((Str.ofString "").length : Int) ≤ 1000 * (-1 + 1)); decide +kernel, fun bs h => h⟩
  case turn =>
    refine tup6 ?_
    intro cd tc pl tp co tco u kh ktk _ hI kFr kNews
    refine wait fun cW hW => ?_
    obtain ⟨h1, h2, h3, hcl, hcr⟩ := hI
    refine hW ?_
    clear hW cW
    dsimp only at kFr h1 h2 h3 hcl hcr
    have hcd' : cd.length ≤ 13000 := Int.ofNat_le.1 (Int.le_trans hcl (Int.mul_le_mul_of_nonneg_left (Int.add_le_add_right (Int.le_trans h2 hw) 1) (by decide)))
    have hcd : cd.length ≤ 100000 := Nat.le_trans hcd' (by decide)
    clear lF lN
    ktr_step
    · skip
      (rename Fr _ _ _ _ => lF)
      (rename News _ _ _ _ => lN)
      refine near_tells (dp := dp + 1) (un := un + 3) rw nr vr row pl co _ _ ⟨B', lF, X', T', rfl⟩ (news_sub (new := [_]) lN (by k_allIn)) hir (le12 hlr hw) h1 (Int.le_trans h2 hw) (dn (a := dp) (c := 3) hdp (by decide)) (dn (a := un) (c := 33) hun (by decide)) ?_
      intro here t1 h4 tk4 hn1 k1
      have F2 := fr_all lF k1
      have N2 := news_all lN k1
      clear lF lN k1
      have hlt : pl < row.length := by with_reducible assumption
      have hplw : pl < wd := by rw [← hlr]; exact hlt
      have hgt := (near_le hn1 (Int.le_of_lt hlt)).2.2 hlt
      have hher : here ≤ row.length := (near_le hn1 (Int.le_of_lt hlt)).2.1
      have hk1' : here ≤ wd := by rw [← hlr]; exact hher
      have here0 := cp1_nn h1 hgt
      (try dsimp only)
      ktr_step
      (rename Fr _ _ _ _ => lF)
      (rename News _ _ _ _ => lN)
      refine near_tells (dp := dp + 1) (un := un + 3) ab na va above pl co _ _ ⟨B', lF, X', T', rfl⟩ (news_sub (new := [_]) lN (by k_allIn)) hia (le12 hla hw) h1 (Int.le_trans h2 hw) (dn (a := dp) (c := 3) hdp (by decide)) (dn (a := un) (c := 33) hun (by decide)) ?_
      intro there t2 h5 tk5 hn2 k1
      have F2 := fr_all lF k1
      have N2 := news_all lN k1
      clear lF lN k1
      have hpa : pl < above.length := by rw [hla]; exact hplw
      have htgt := (near_le hn2 (Int.le_of_lt hpa)).2.2 hpa
      have hta : there ≤ above.length := (near_le hn2 (Int.le_of_lt hpa)).2.1
      (try dsimp only)
      ktr_step
      (rename Fr _ _ _ _ => lF)
      (rename News _ _ _ _ => lN)
      refine near_tells (dp := dp + 1) (un := un + 3) ab na va above there (1 - co) _ _ ⟨B', lF, X', T', rfl⟩ (news_sub (new := [_]) lN (by k_allIn)) hia (le12 hla hw) (n1_of (cp1_nn h1 htgt)) (Int.le_trans hta (by rw [hla]; exact hw)) (dn (a := dp) (c := 3) hdp (by decide)) (dn (a := un) (c := 33) hun (by decide)) ?_
      intro back t3 h6 tk6 hn3 k1
      have F2 := fr_all lF k1
      have N2 := news_all lN k1
      clear lF lN k1
      have hbk := near_le hn3 hta
      (try dsimp only)
      ktr_step
      · (rename Fr _ _ _ _ => lF)
        (rename News _ _ _ _ => lN)
        (try dsimp only [KswPost])
        refine ksw_end ((cd ++ Str.ofString "0001", _), (back, _), (co, _)) lF lN (by k_allIn) trivial (by kst_all) (fun z hz hst => by
          have a1 : z ≠ Str.ofString "colour" := hz _ (.head _)
          have a2 : z ≠ Str.ofString "place" := hz _ (.tail _ (.head _))
          have a3 : z ≠ Str.ofString "code" := hz _ (.tail _ (.tail _ (.head _)))
          obtain ⟨b1, b2, b3⟩ := three_off hst
          simp only [kstB, if_neg a1, if_neg a2, if_neg a3, if_neg b1, if_neg b2, if_neg b3, hst, Bool.false_eq_true, if_false]) ⟨n1_of (Int.le_trans (cp1_nn h1 htgt) hbk.1), by rw [← hla]; exact hbk.2.1, h3, ?_, fun bs hb => ?_⟩ (tnD (Int.lt_of_lt_of_le htgt hbk.1) hplw)
        · exact len_pass (pl := pl) (back := back) hcl (Int.lt_of_lt_of_le htgt hbk.1)
        · (show CodeR _ _ _ _ _ (strBits (cd ++ Str.ofString "0001") ++ bs))
          rw [strBits_app, List.append_assoc]
          exact hcr _ (.pass hlt hn1 hn2 hn3 (by omega) hb)
      · (rename Fr _ _ _ _ => lF)
        (rename News _ _ _ _ => lN)
        have hd1 := (abs3 (a := here - there) (by with_reducible assumption)).1
        have hd2 := (abs3 (a := here - there) (by with_reducible assumption)).2
        have hsl := step_len hd1 hd2
        refine steps_tells (dp := dp + 1) (un := un + 3) ⟨B', lF, X', T', rfl⟩ (dn (a := dp) (c := 3) hdp (by decide)) (by omega) ?_
        intro l its nl h7 tk7 hits D7
        obtain ⟨F2, N2⟩ := aft_add lF lN D7
        clear lF lN D7
        (try dsimp only)
        ktr_enter
        obtain ⟨tv, hv⟩ := hits (here - there) _ hd1 hd2 rfl
        refine item_at N2 (.head _) (Int.add_le_add_right hd1 3) (Int.lt_of_le_of_lt (Int.add_le_add_right hd2 3) (by decide)) hv ?_
        (try dsimp only)
        ktr_enter
        (rename Fr _ _ _ _ => lF)
        (rename News _ _ _ _ => lN)
        (try dsimp only [KswPost])
        refine ksw_end ((cd ++ stepStr (here - there), _), (here, _), (1 - co, _)) lF lN (by k_allIn) trivial (by kst_all) (fun z hz hst => by
          have a1 : z ≠ Str.ofString "colour" := hz _ (.head _)
          have a2 : z ≠ Str.ofString "place" := hz _ (.tail _ (.head _))
          have a3 : z ≠ Str.ofString "code" := hz _ (.tail _ (.tail _ (.head _)))
          obtain ⟨b1, b2, b3⟩ := three_off hst
          simp only [kstB, if_neg a1, if_neg a2, if_neg a3, if_neg b1, if_neg b2, if_neg b3, hst, Bool.false_eq_true, if_false]) ⟨n1_of here0, hk1', flip01 h3, ?_, fun bs hb => ?_⟩ (tnD hgt hplw)
        · exact len_vert (pl := pl) (back := here) hcl (step_len9 hd1 hd2) hgt
        · (show CodeR _ _ _ _ _ (strBits (cd ++ stepStr (here - there)) ++ bs))
          rw [strBits_app, List.append_assoc]
          exact hcr _ (.vert hlt hn1 hn2 hn3 (by omega) hd1 hd2 hb)
      · (rename Fr _ _ _ _ => lF)
        (rename News _ _ _ _ => lN)
        refine near_tells (dp := dp + 1) (un := un + 3) rw nr vr row here (1 - co) _ _ ⟨B', lF, X', T', rfl⟩ (news_sub (new := [_]) lN (by k_allIn)) hir (le12 hlr hw) (n1_of here0) (Int.le_trans hk1' hw) (dn (a := dp) (c := 3) hdp (by decide)) (dn (a := un) (c := 33) hun (by decide)) ?_
        intro back2 t7 h7 tk7 hn4 k1
        have F2 := fr_all lF k1
        have N2 := news_all lN k1
        clear lF lN k1
        have hb2 := near_le hn4 hher
        have hk4' : back2 ≤ wd := by rw [← hlr]; exact hb2.2.1
        have i1 := Int.sub_nonneg_of_le (at0_le here0 (Int.le_of_lt hgt))
        have i2 := Int.le_trans (Int.sub_le_self here (at0_nn pl)) (Int.le_trans hk1' hw)
        have j1 := Int.sub_nonneg_of_le hb2.1
        have j2 := Int.le_trans (Int.sub_le_self back2 here0) (Int.le_trans hk4' hw)
        obtain ⟨its1, nn1, l1, its2, nn2, tr1, q1, q2, q3, q4, q5⟩ := run_tab w.params (c := co) (n := here - at0 pl) h3 i1 i2
        obtain ⟨its3, nn3, l3, its4, nn4, tr2, r1, r2, r3, r4, r5⟩ := run_tab w.params (c := 1 - co) (n := back2 - here) (flip01 h3) j1 j2
        (try dsimp only)
        ktr_enter
        (rename Fr _ _ _ _ => lF)
        refine item_in X' lF q1 (b01 h3) (b63 h3) q2 ?_
        (try dsimp only)
        ktr_enter
        (rename Fr _ _ _ _ => lF)
        have em : (if 0 > pl then 0 else pl) = at0 pl := by
          unfold at0
          split
          · rw [if_neg (Int.not_lt.2 (Int.le_of_lt ‹_›))]
          · split
            · rfl
            · exact Int.le_antisymm (Int.not_lt.1 ‹¬ pl > 0›) (Int.not_lt.1 ‹¬ 0 > pl›)
        rw [em]
        refine item_in X' lF q3 i1 (Int.lt_of_le_of_lt i2 (by decide)) q4 ?_
        have e3 : (Str.ofString "001").length = 3 := by decide +kernel
        have g1 : (cd ++ Str.ofString "001").length ≤ 100000 := by rw [len_app, e3]; exact Nat.le_trans (Nat.add_le_add_right hcd' 3) (by decide)
        have g2 : (cd ++ Str.ofString "001" ++ runStr w.params co (here - at0 pl)).length ≤ 100000 := by rw [len_app, len_app, e3]; exact Nat.le_trans (Nat.add_le_add (Nat.add_le_add_right hcd' 3) q5) (by decide)
        have g3 : (runStr w.params co (here - at0 pl)).length ≤ 1000 := Nat.le_trans q5 (by decide)
        have g4 : (runStr w.params (1 - co) (back2 - here)).length ≤ 1000 := Nat.le_trans r5 (by decide)
        (try dsimp only)
        ktr_enter
        (rename Fr _ _ _ _ => lF)
        refine item_in X' lF r1 (b01 (flip01 h3)) (b63 (flip01 h3)) r2 ?_
        (try dsimp only)
        ktr_enter
        (rename Fr _ _ _ _ => lF)
        refine item_in X' lF r3 j1 (Int.lt_of_le_of_lt j2 (by decide)) r4 ?_
        (try dsimp only)
        ktr_enter
        (rename Fr _ _ _ _ => lF)
        (rename News _ _ _ _ => lN)
        (try dsimp only [KswPost])
        refine ksw_end ((cd ++ Str.ofString "001" ++ runStr w.params co (here - at0 pl) ++ runStr w.params (1 - co) (back2 - here), _), (back2, _), (co, _)) lF lN (by k_allIn) trivial (by kst_all) (fun z hz hst => by
          have a1 : z ≠ Str.ofString "colour" := hz _ (.head _)
          have a2 : z ≠ Str.ofString "place" := hz _ (.tail _ (.head _))
          have a3 : z ≠ Str.ofString "code" := hz _ (.tail _ (.tail _ (.head _)))
          obtain ⟨b1, b2, b3⟩ := three_off hst
          simp only [kstB, if_neg a1, if_neg a2, if_neg a3, if_neg b1, if_neg b2, if_neg b3, hst, Bool.false_eq_true, if_false]) ⟨n1_of (Int.le_trans here0 hb2.1), hk4', h3, ?_, fun bs hb => ?_⟩ (tnD (Int.lt_of_lt_of_le hgt hb2.1) hplw)
        · (show ((cd ++ Str.ofString "001" ++ runStr w.params co (here - at0 pl) ++ runStr w.params (1 - co) (back2 - here)).length : Int) ≤ 1000 * (back2 + 1))
          rw [len_app, len_app, len_app, e3, Nat.add_assoc, Nat.add_assoc]
          exact len_up hcl (Nat.le_trans (Nat.add_le_add_left (Nat.add_le_add q5 r5) 3) (by decide)) (Int.lt_of_lt_of_le hgt hb2.1)
        · (show CodeR _ _ _ _ _ (strBits (cd ++ Str.ofString "001" ++ runStr w.params co (here - at0 pl) ++ runStr w.params (1 - co) (back2 - here)) ++ bs))
          rw [strBits_app, strBits_app, strBits_app, List.append_assoc, List.append_assoc, List.append_assoc]
          exact hcr _ (.hor hlt hn1 hn2 hn3 (by omega) (abs3_not (by with_reducible assumption)) hn4 hb)
    · (try dsimp only)
      refine leaveK_ kFr kNews fun kF kN => ?_
      (try dsimp only)
      have hend := hcr [] (.stop (Int.not_lt.1 (by with_reducible assumption)))
      rw [List.append_nil] at hend
      exact hret _ _ _ _ hend (len_to hcl h2) (aft_same (aft_of N G' kFr kNews) (fun p hp => (N p hp).1) (fun _ h => h))
end

example : True := by w_top off; trivial
section
variable {prog : Program} {w : World} {A₀ A : Around} {E : Value → Shared → Prop} {s : Shared} {base h₀ : Heap} {outer : List Env} {L : Addr} {m : Str → Option Value} {env : Env} {news : List (Addr × Obj)} {K : Frag}
/-- a def with captured names is entered; what the call has not been handed stands in the ground -/
theorem enter_cells {p : Program} {loose : List Str} {mean : ExcName → Option Value} {mg mb : Str → Option Value} {R : Result → Shared → Prop} {name qual : Str} {params : Arguments} {body : List Stmt} {scope : Scope} {dV kV doc pm cdv ct oc : Value} {an od : Option Addr} {osl : Array (Option Value)} {f : Addr} {args : Args} {binds : List (Str × Value)}
    (B : Below A₀ base outer h₀) (F : Fr h₀ L s.heap m) (X₀ : K.In h₀) (N : News h₀ L s.heap news) (T : Top p loose mean mg mb h₀) (hA : A.frames = some (env :: outer)) (hf : env.frame = some L) (hke : env.scope.kind = .function)
    (ho : K.lookup f = some ⟨oc, od, .func (fnOf name qual params body scope dV kV doc pm an cdv ct), osl⟩) (hcd : codeIn K cdv qual = true) (hroom : A.depth < recursionLimit)
    (hbind : BindsTo s (fnOf name qual params body scope dV kV doc pm an cdv ct) args binds) (hkind : (binds.all fun y => scope.names.lookup y.1 == some .local || scope.names.lookup y.1 == some .cell) = true)
    (hnd : ((cellsFrom 0 scope.names []).map (·.1)).Nodup)
    (h : ∀ g L' h₁ tk cells, Fr h₀ L g m → Fr g L' h₁ (bindL (envOfC qual scope L' f cdv).kindOf binds fun _ => none) → News g L' h₁ (cells ++ news) →
      CellsAre (bindC (envOfC qual scope L' f cdv).kindOf binds fun _ => none) (cellsFrom (L' + 1) scope.names []) cells → Below A base (env :: outer) g → K.In g → Top p loose mean mg mb g → (∀ p ∈ news, p.1 < L') → GSub s.heap g (news.map (·.1)) →
      wpAny (model prog w) (A.deeper (envOfC qual scope L' f cdv)) (execs body (envOfC qual scope L' f cdv))
        (fun fl s' => LeaveK h₀ L m g R (match fl with | .ret v => v | _ => .none) s')
        (fun e s' => wpAny (model prog w) (A.deeper (envOfC qual scope L' f cdv)) (leaving (envOfC qual scope L' f cdv) e) (fun _ s'' => R (.error e) s'') (fun e' s'' => R (.error e') s'') s')
        { s with heap := h₁, toks := tk })
    (hco : scope.isCoroutine = false) (hgen : scope.isGenerator = false) (hk : scope.kind = .function) : codeAny (model prog w) A (.call (.ref f) args) R s := by
  refine wait fun cW hW => ?_
  obtain ⟨FG, BG, st, lv⟩ := groundX (R := R) B F N hA hf hke
  refine hW ?_
  clear hW cW
  have hX : K.In s.heap := X₀.keeps F.keep
  refine codeAny_call_function hroom (hX _ _ ho) rfl hco hgen rfl (codeRec_of hX hcd) (hbind _ _ _ _ (wpAny_newFunctionEnv_cells hk (kindsX hkind _) fun env' he s' x => ?_))
  subst he
  have hkeep := x.toInCall.keep
  refine ⟨(T.nolimit.keeps F.keep).keeps hkeep, codeAny_func ?_⟩
  refine wait fun cW hW => ?_
  obtain ⟨h₁, tk, rfl, _⟩ := x.done
  refine hW ?_
  clear hW cW
  refine wait fun cW hW => ?_
  obtain ⟨cells, NC, Y⟩ := Cl.news (h₀ := s.heap) (Nat.le_refl _) fun n c hm => ⟨x.cell n c (lookup_of_mem_nodup (cellsFrom_names scope.names 0 (s.heap.objs.size + 1) [] [] rfl ▸ hnd) hm), x.above n c hm⟩
  refine hW ?_
  clear hW cW
  have hlt : ∀ p ∈ news, p.1 < s.heap.objs.size := fun p hp => Heap.lt_size (N p hp).1
  have F₁ : Fr (hideAll s.heap (news.map (·.1))) s.heap.objs.size h₁ (bindL (envOfC qual scope s.heap.objs.size f cdv).kindOf binds fun _ => none) := ⟨x.toInCall.ns, fun b o e => hkeep b o (of_hideAll _ e), Nat.le_of_eq (hideAll_size _ _)⟩
  have N₁ : News (hideAll s.heap (news.map (·.1))) s.heap.objs.size h₁ (cells ++ news) := fun p hp => by
    rcases List.mem_append.mp hp with z | z
    · refine ⟨(NC p z).1, (NC p z).2.1, ?_⟩
      cases q : (hideAll s.heap (news.map (·.1))).get? p.1 with
      | none => rfl
      | some o =>
        have q2 := of_hideAll _ q
        rw [(NC p z).2.2] at q2; cases q2
    · exact ⟨hkeep _ _ (N p z).1, Nat.ne_of_lt (hlt p z), hideAll_none _ (List.mem_map_of_mem z)⟩
  exact wpAny_mono (h _ _ h₁ tk cells FG F₁ N₁ Y BG (X₀.keeps st) (T.keeps st) hlt fun b o e n => hideAll_get _ e n) (fun fl s' hl => lv _ _ hl) fun _ _ y => y
end
/-- the cells of a block whose loop's name is captured, and its frame -/
structure BlkOff (I C K D : Addr) (nx : List (Addr × Obj)) : Prop where
  off : ∀ p ∈ nx, p.1 ≠ I ∧ p.1 ≠ C ∧ p.1 ≠ K ∧ p.1 ≠ D
/-- what the source of such a block tells -/
inductive BlkSrc (prog : Program) (w : World) (A : Around) (h₀ : Heap) (L : Addr) (m : Str → Option Value) (env : Env) (elt : PySem.Expr) (x : Str) (scope : Scope) (cl : List (Str × Addr)) (Q : Value → Shared → Prop) (xv : Value) (s₁ : Shared) : Prop where
  | intro : ∀ (r : Addr) (a b st : Int) (t u v : Tok) (n : Nat) (nx0 : List (Addr × Obj)) (J : Nat → List Value → List (Addr × Obj) → Prop), xv = .ref r → A.handled = none → Fr h₀ L s₁.heap m → News h₀ L s₁.heap nx0 → IsRange s₁.heap r a b st t u v → Builtin.Range.small a b st = true → Builtin.Range.rangeSize a b st = ((n : Nat) : Int) → n ≤ sizeLine → J 0 [] nx0 → ((∀ i ti ys nx h tk (I C K D : Addr) oI oC oK (E' : Value → Shared → Prop), i < n → J i ys nx → Fr h₀ L h m → News h₀ L h ((I, oI) :: (C, oC) :: (K, oK) :: (D, LCg.lst ys) :: nx) → oK.data = .cell (some (.int (a + (i : Int) * st) ti)) → BlkOff I C K D nx → (I ≠ C ∧ I ≠ K ∧ I ≠ D ∧ C ≠ K ∧ C ≠ D ∧ K ≠ D) → wpAny (model prog w) A (eval elt (compEnvC scope ((x, K) :: cl) C env)) (fun y s₂ => ∃ h' tk' nx', s₂ = { s₁ with heap := h', toks := tk' } ∧ Fr h₀ L h' m ∧ News h₀ L h' ((I, oI) :: (C, oC) :: (K, oK) :: (D, LCg.lst ys) :: nx') ∧ BlkOff I C K D nx' ∧ J (i + 1) (ys ++ [y]) nx') E' { s₁ with heap := h, toks := tk })) → ((∀ ys nx D h tk, J n ys nx → Fr h₀ L h m → News h₀ L h ((D, LCg.lst ys) :: nx) → (∀ p ∈ nx, p.1 ≠ D) → Q (.ref D) { s₁ with heap := h, toks := tk })) → BlkSrc prog w A h₀ L m env elt x scope cl Q xv s₁
section
variable {prog : Program} {w : World} {A : Around} {E : Value → Shared → Prop} {s : Shared} {h₀ : Heap} {L : Addr} {m : Str → Option Value} {env : Env}
/-- a block's frame with one name of its own in a cell -/
theorem new_blk {M : Model} {A : Around} {E : Value → Shared → Prop} {s : Shared} {env : Env} {scope : Scope} {x : Str} {cl : List (Str × Addr)} {Q : Env → Shared → Prop} (hcf : ∀ n, cellsFrom n scope.names cl = (x, n) :: cl) (hpc : ∀ h, pushCells h scope.names = h.push { cls := .type "cell", data := .cell none })
    (h : Q { scope, locals := s.heap.objs.size, globals := env.globals, cells := (x, s.heap.objs.size + 1) :: cl, qual := env.qual, func := none, code := env.code, frame := env.frame, builtins := env.builtins } { s with heap := (s.heap.push { cls := .type "dict", data := .dict #[] }).push { cls := .type "cell", data := .cell none } }) :
    wpAny M A (newFunctionEnv scope env.globals cl [] env.qual none .none (some env)) Q E s := by
  simp only [newFunctionEnv, Option.isSome_some, if_true]
  refine wpAny_bind (wpAny_alloc ?_)
  refine wpAny_bind (wpAny_layCells _ (fun name kind cells => by cases hkc : kind == NameKind.cell <;> simp [hkc]) _ _ _ _ ?_)
  rw [hcf, hpc]
  refine wpAny_bind ?_
  rw [List.forIn_nil]
  refine wpAny_pure (wpAny_pure ?_)
  rw [show ({ s with heap := s.heap.push { cls := .type "dict", data := .dict #[] } } : Shared).heap.objs.size = s.heap.objs.size + 1 from Heap.size_push ..]
  exact h
theorem news_cons {h₀ h : Heap} {L a : Addr} {o : Obj} {r : List (Addr × Obj)} (e1 : h.get? a = some o) (e2 : a ≠ L) (e3 : h₀.get? a = none) (N : News h₀ L h r) : News h₀ L h ((a, o) :: r) := fun p hp => by
  cases hp with
  | head => exact ⟨e1, e2, e3⟩
  | tail _ hp => exact N p hp
/-- where such a block's loop stands -/
inductive BlkAt (h₀ : Heap) (L : Addr) (m : Str → Option Value) (sz : Addr) (a st : Int) (n : Nat) (J : Nat → List Value → List (Addr × Obj) → Prop) (s₁ : Shared) (k : Nat) (s' : Shared) : Prop where
  | intro : ∀ h' tk i ys nx' oI oC oK v0 m', s' = { s₁ with heap := h', toks := tk } → i ≤ n → k = n + 1 - i → ys.length = i → IsRangeIter h' sz (a + ((i : Nat) : Int) * st) ((n : Int) - ((i : Nat) : Int)) st → Fr h₀ L h' m →
      News h₀ L h' ((sz, oI) :: (sz + 1 + 1, oC) :: (sz + 1 + 1 + 1, oK) :: (sz + 1, LCg.lst ys) :: nx') → oK.data = .cell v0 → LCg.NsObj oC m' → BlkOff sz (sz + 1 + 1) (sz + 1 + 1 + 1) (sz + 1) nx' → J i ys nx' → BlkAt h₀ L m sz a st n J s₁ k s'
/-- a list comprehension over a range whose loop's name is captured by a block within -/
theorem comp_cell {elt iter : PySem.Expr} {x : Str} {px : Pos} {scope : Scope} {cl : List (Str × Addr)} {pos : Pos} {Q : Value → Shared → Prop} (F₀ : Fr h₀ L s.heap m)
    (hclos : closureFor scope env = pure cl) (hkind : scope.kind = .function) (hnames : ∀ y ∈ scope.names, y.2 = .local → scope.names.lookup y.1 = some .local)
    (hx : ∀ nm, (nm = x) → (compEnvC scope cl 0 env).kindOf nm = some .cell) (hcf : ∀ n, cellsFrom n scope.names cl = (x, n) :: cl) (hpc : ∀ h, pushCells h scope.names = h.push { cls := .type "cell", data := .cell none })
    (h : wpAny (model prog w) A (eval iter env) (BlkSrc prog w A h₀ L m env elt x scope cl Q) E s)
    (hs : ∀ x, foldedSetIterable iter env x = pure x := by intro _; rfl) :
    wpAny (model prog w) A (eval (.ListComp elt [⟨.Name x px, iter, [], 0⟩] scope pos) env) Q E s := by
  rw [eval_ListComp]
  refine wpAny_comprehension_free (use := none) rfl hs hclos hkind hnames (wpAny_mono h (fun xv s₁ h₁ => ?_) fun _ _ e => e)
  refine wait fun cW hW => ?_
  obtain ⟨r, a, b, st, t, u, v, n, nx0, J, rfl, hh, F, N, hr, hsm, hn, hsz, hJ0, turn, done⟩ := h₁
  refine hW ?_
  clear hW cW
  refine wpAny_pyIter_range hr hsm ?_
  have hLlt : L < s₁.heap.objs.size := F.ns.lt
  have up1 : ∀ b o, s₁.heap.get? b = some o → (s₁.heap.push { cls := .type "range_iterator", data := .fields #[.int a 0, .int (Builtin.Range.rangeSize a b st) 0, .int st 0] }).get? b = some o := fun b o e => Heap.get?_push_of_some _ e
  refine wpAny_newObj_type (new_blk hcf hpc ?_)
  simp only [Heap.size_push]
  generalize hsz1 : s₁.heap.objs.size = sz at *
  generalize hH4 : Heap.push (Heap.push (Heap.push (Heap.push s₁.heap _) _) _) _ = H4
  have old : ∀ b o, s₁.heap.get? b = some o → H4.get? b = some o := fun b o e => by
    rw [← hH4]
    exact Heap.get?_push_of_some _ (Heap.get?_push_of_some _ (Heap.get?_push_of_some _ (Heap.get?_push_of_some _ e)))
  have gI : IsRangeIter H4 sz (a + ((0 : Nat) : Int) * st) ((n : Int) - ((0 : Nat) : Int)) st := by
    rw [← hH4]
    refine Heap.get?_push_of_some _ (Heap.get?_push_of_some _ (Heap.get?_push_of_some _ ?_))
    rw [← hsz1, hn]
    simpa using Heap.get?_push_size _ rfl
  have gD : H4.get? (sz + 1) = some (LCg.lst []) := by
    rw [← hH4]
    refine Heap.get?_push_of_some _ (Heap.get?_push_of_some _ ?_)
    have e := Heap.get?_push_size (Heap.push s₁.heap { cls := .type "range_iterator", data := .fields #[rawInt a, rawInt (Builtin.Range.rangeSize a b st), rawInt st] }) (o := LCg.lst []) rfl
    rw [Heap.size_push, hsz1] at e
    exact e
  have gC : ∃ oC, H4.get? (sz + 1 + 1) = some oC ∧ LCg.NsObj oC (fun _ => none) := by
    refine ⟨{ cls := .type "dict", data := .dict #[] }, ?_, ?_⟩
    · rw [← hH4]
      refine Heap.get?_push_of_some _ ?_
      have e := Heap.get?_push_size (Heap.push (Heap.push s₁.heap { cls := .type "range_iterator", data := .fields #[rawInt a, rawInt (Builtin.Range.rangeSize a b st), rawInt st] }) (LCg.lst [])) (o := { cls := .type "dict", data := .dict #[] }) rfl
      rw [Heap.size_push, Heap.size_push, hsz1] at e
      exact e
    · refine wait fun cW hW => ?_
      obtain ⟨o, ho, x⟩ := LCg.ns_obj (Heap.Ns.new s₁.heap (.type "dict"))
      refine hW ?_
      clear hW cW
      have e := Heap.get?_push_size s₁.heap (o := { cls := .type "dict", data := .dict #[] }) rfl
      rw [e] at ho
      cases ho
      exact x
  have gK : H4.get? (sz + 1 + 1 + 1) = some { cls := .type "cell", data := .cell none } := by
    rw [← hH4]
    have e := Heap.get?_push_size (Heap.push (Heap.push (Heap.push s₁.heap { cls := .type "range_iterator", data := .fields #[rawInt a, rawInt (Builtin.Range.rangeSize a b st), rawInt st] }) (LCg.lst [])) { cls := .type "dict", data := .dict #[] }) (o := { cls := .type "cell", data := .cell none }) rfl
    rw [Heap.size_push, Heap.size_push, Heap.size_push, hsz1] at e
    exact e
  refine wait fun cW hW => ?_
  obtain ⟨oC0, gC, nC⟩ := gC
  refine hW ?_
  clear hW cW
  obtain ⟨oI0, gI0⟩ : ∃ oI, H4.get? sz = some oI := ⟨_, gI⟩
  have fresh : ∀ b, sz ≤ b → s₁.heap.get? b = none := fun b hb => Heap.get?_none_of_le (by rw [hsz1]; exact hb)
  have fresh0 : ∀ b, sz ≤ b → h₀.get? b = none := fun b hb => by
    cases e : h₀.get? b with
    | none => rfl
    | some o => have q := F.keep b o e; rw [fresh b hb] at q; cases q
  have hLn : ∀ b, sz ≤ b → b ≠ L := fun b hb q => by
    have : L < sz := hLlt
    subst q
    exact absurd hb (Nat.not_le.mpr this)
  have W := (Walks.range (prog := prog) (w := w) hh sz a st n).bound
  have loop : codeAny (model prog w) A (.compLoop (.ListComp elt [⟨.Name x px, iter, [], 0⟩] scope pos) 0 (.ref sz) (.ref (sz + 1)) (compEnvC scope ((x, sz + 1 + 1 + 1) :: cl) (sz + 1 + 1) env))
      (compPost (model prog w) A E none Q (.ref (sz + 1)) (sz + 1 + 1)) { s₁ with heap := H4 } := by
    refine codeAny_compLoop_tests
      (BlkAt h₀ L m sz a st n J s₁) ?_ (n + 1)
      ⟨H4, s₁.toks, 0, [], nx0, oI0, oC0, { cls := .type "cell", data := .cell none }, none, _, rfl, Nat.zero_le _, rfl, rfl, gI, F.keeps old, ?_, rfl, nC, ?_, hJ0⟩
    · intro k s' hZ2
      refine wait fun cW hW => ?_
      obtain ⟨h', tk, i, ys, nx', oI, oC, oK, v0, m', rfl, hi, rfl, hyl, hst', F', N', hK', nC', off', hJ'⟩ := hZ2
      refine hW ?_
      clear hW cW
      have aI : sz ≠ L := hLn _ (Nat.le_refl _)
      have aK : sz + 1 + 1 + 1 ≠ L := hLn _ (by omega)
      have nI : h₀.get? sz = none := fresh0 _ (Nat.le_refl _)
      have nK : h₀.get? (sz + 1 + 1 + 1) = none := fresh0 _ (by omega)
      have tailI : ∀ p ∈ (sz + 1 + 1, oC) :: (sz + 1 + 1 + 1, oK) :: (sz + 1, LCg.lst ys) :: nx', p.1 ≠ sz := ne_cons (Nat.ne_of_gt (by omega)) (ne_cons (Nat.ne_of_gt (by omega)) (ne_cons (Nat.ne_of_gt (by omega)) fun p hp => (off'.off p hp).1))
      by_cases hlt : i < n
      · refine W.item i _ _ _ hlt hst' fun v h₂ tk₂ hPv hst₂ hk₂ => ?_
        refine wait fun cW hW => ?_
        obtain ⟨_, ti, rfl⟩ := hPv
        refine hW ?_
        clear hW cW
        have F₂ : Fr h₀ L h₂ m := LCg.fr_but F' hk₂ (Ne.symm aI) nI
        have N₂ : News h₀ L h₂ ((sz + 1 + 1, oC) :: (sz + 1 + 1 + 1, oK) :: (sz + 1, LCg.lst ys) :: nx') := LCg.news_but (fun p hp => N' p (.tail _ hp)) hk₂ tailI
        refine wpAny_assign_Name (wpAny_storeName_cell hkind (hx _ rfl) (by simp [compEnvC]) ⟨oK, (N₂ _ (.tail _ (.head _))).1, hK'⟩ fun h₃ hv₃ hs₃ => ?_)
        refine wait fun cW hW => ?_
        obtain ⟨oK3, gK3, dK3⟩ := hv₃
        refine hW ?_
        clear hW cW
        refine wpAny_tests_nil ?_
        simp only [if_true]
        obtain ⟨oI3, eI3, hst₃⟩ : ∃ oI3, (oI3 = ({ cls := .type "range_iterator", dict := none, data := .fields #[rawInt (a + ((i + 1 : Nat) : Int) * st), rawInt ((n : Int) - ((i + 1 : Nat) : Int)), rawInt st], slots := #[] } : Obj)) ∧ h₃.get? sz = some oI3 := ⟨_, rfl, hs₃.extBut _ _ (Nat.ne_of_lt (by omega)) hst₂⟩
        have F₃ : Fr h₀ L h₃ m := F₂.change hs₃ aK nK
        have N₃ : News h₀ L h₃ ((sz, oI3) :: (sz + 1 + 1, oC) :: (sz + 1 + 1 + 1, oK3) :: (sz + 1, LCg.lst ys) :: nx') :=
          news_cons hst₃ aI nI (news_cons (hs₃.extBut _ _ (Nat.ne_of_lt (by omega)) (N₂ _ (.head _)).1) (N₂ _ (.head _)).2.1 (N₂ _ (.head _)).2.2 (news_cons gK3 aK nK fun p hp => by
            have z := N₂ p (.tail _ (.tail _ hp))
            exact ⟨hs₃.extBut _ _ (ne_cons (d := sz + 1 + 1 + 1) (Nat.ne_of_lt (by omega)) (fun p hp => (off'.off p hp).2.2.1) p hp) z.1, z.2⟩))
        refine wpAny_mono (turn i ti ys nx' h₃ _ sz (sz + 1 + 1) (sz + 1 + 1 + 1) (sz + 1) oI3 oC oK3 _ hlt hJ' F₃ N₃ dK3 off' ⟨Nat.ne_of_lt (by omega), Nat.ne_of_lt (by omega), Nat.ne_of_lt (by omega), Nat.ne_of_lt (by omega), Nat.ne_of_gt (by omega), Nat.ne_of_gt (by omega)⟩) (fun y s₄ h₄ => ?_) fun _ _ e => e
        refine wait fun cW hW => ?_
        obtain ⟨h₄, tk₄, nx₄, rfl, F₄, N₄, off₄, hJ₄⟩ := h₄
        refine hW ?_
        clear hW cW
        refine append_at (hsz := by show ys.toArray.size ≤ sizeLine; rw [List.size_toArray, hyl]; exact Nat.le_trans hi hsz) (N₄ _ (.tail _ (.tail _ (.tail _ (.head _))))).1 fun h₅ hs₅ hD₅ => ?_
        refine ⟨n + 1 - (i + 1), sub_step (by assumption), h₅, tk₄, i + 1, ys ++ [y], nx₄, oI3, oC, oK3, _, m', rfl, hlt, rfl, by rw [List.length_append, List.length_singleton, hyl], by (show h₅.get? sz = some _); rw [← eI3]; exact hs₅.extBut _ _ (Nat.ne_of_lt (by omega)) (N₄ _ (.head _)).1, F₄.change hs₅ (hLn _ (by omega)) (fresh0 _ (by omega)), ?_, dK3, nC', off₄, hJ₄⟩
        refine news_cons (hs₅.extBut _ _ (Nat.ne_of_lt (by omega)) (N₄ _ (.head _)).1) aI nI ?_
        refine news_cons (hs₅.extBut _ _ (Nat.ne_of_gt (by omega)) (N₄ (sz + 1 + 1, oC) (.tail _ (.head _))).1) (hLn _ (by omega)) (fresh0 _ (by omega)) ?_
        refine news_cons (hs₅.extBut _ _ (Nat.ne_of_gt (by omega)) (N₄ (sz + 1 + 1 + 1, oK3) (.tail _ (.tail _ (.head _)))).1) aK nK ?_
        refine news_cons (hD₅.trans (congrArg some (LCg.lst_snoc ys y))) (hLn _ (by omega)) (fresh0 _ (by omega)) fun p hp => ?_
        have z := N₄ p (.tail _ (.tail _ (.tail _ (.tail _ hp))))
        exact ⟨hs₅.extBut _ _ (off₄.off p hp).2.2.2 z.1, z.2⟩
      · obtain rfl : i = n := Nat.le_antisymm hi (Nat.not_lt.mp hlt)
        refine W.done _ _ _ hst' fun h₂ tk₂ hk₂ => ?_
        have F₂ : Fr h₀ L h₂ m := LCg.fr_but F' hk₂ (Ne.symm aI) nI
        have N₂ : News h₀ L h₂ ((sz + 1 + 1, oC) :: (sz + 1 + 1 + 1, oK) :: (sz + 1, LCg.lst ys) :: nx') := LCg.news_but (fun p hp => N' p (.tail _ hp)) hk₂ tailI
        refine ⟨m', nC'.ns (N₂ _ (.head _)).1, fun h'' hs'' => done ys nx' (sz + 1) h'' tk₂ hJ' (F₂.change hs'' (hLn _ (by omega)) (fresh0 _ (by omega))) (fun p hp => ?_) fun p hp => (off'.off p hp).2.2.2⟩
        have z := N₂ p (.tail _ (.tail _ hp))
        exact ⟨hs''.extBut _ _ (ne_cons (d := sz + 1 + 1) (Nat.ne_of_lt (by omega)) (fun p hp => (off'.off p hp).2.1) p hp) z.1, z.2⟩
    · exact news_cons gI0 (hLn _ (Nat.le_refl _)) (fresh0 _ (Nat.le_refl _)) (news_cons gC (hLn _ (by omega)) (fresh0 _ (by omega)) (news_cons gK (hLn _ (by omega)) (fresh0 _ (by omega)) (news_cons gD (hLn _ (by omega)) (fresh0 _ (by omega)) fun p hp => ⟨old _ _ (N p hp).1, (N p hp).2⟩)))
    · refine ⟨fun p hp => ?_⟩
      have q : p.1 < sz := by rw [← hsz1]; exact Heap.lt_size (N p hp).1
      exact ⟨Nat.ne_of_lt q, Nat.ne_of_lt (Nat.lt_succ_of_lt (Nat.lt_succ_of_lt q)), Nat.ne_of_lt (Nat.lt_succ_of_lt (Nat.lt_succ_of_lt (Nat.lt_succ_of_lt q))), Nat.ne_of_lt (Nat.lt_succ_of_lt q)⟩
  exact codeAny_compStart_list loop (wpAny_pyIter_rangeiter gI loop)
end
theorem ints_at : ∀ {vs : List Value} {ns : List Int}, IntsAre vs ns → ∀ i, i < ns.length → ∃ t, vs[i]? = some (.int (ns.getD i 0) t)
  | _, _, .nil, i, h => absurd h (Nat.not_lt_zero _)
  | _, _, .cons n t _, 0, _ => ⟨t, rfl⟩
  | _, _, .cons n t r, i + 1, h => by
    obtain ⟨t', e⟩ := ints_at r i (by simpa using h)
    exact ⟨t', by simpa using e⟩
theorem item_ints {prog : Program} {w : World} {A : Around} {E : Value → Shared → Prop} {s : Shared} {h₀ : Heap} {L : Addr} {cells : List (Addr × Obj)} {l : Addr} {vs : List Value} {ns : List Int} {nn : Nat} {k : Int} {u : Tok} {value slice : PySem.Expr} {Q : Value → Shared → Prop} (N : News h₀ L s.heap cells) (hm : (l, listOf vs.toArray nn) ∈ cells) (hi : IntsAre vs ns) (h0 : 0 ≤ k) (h1 : k < ns.length) (hk : k < 2 ^ 63) (h : ∀ t, Q (.int (ns.getD k.toNat 0) t) s)
   (hs : subscripted slice false (.ref l) (.int k u) = operate [.ref l, .int k u] (getItem (.ref l) (.int k u)) := by with_unfolding_all rfl) : wpAny (model prog w) A (subscriptTail value slice (.ref l) (.int k u)) Q E s := by
  obtain ⟨t, e⟩ := ints_at hi k.toNat (tn0 h0 h1)
  exact item_at N hm h0 hk (by simpa using e) (h t) hs
theorem bit_mul {xs : List Int} {i : Nat} {b : Int} (h : Bits xs) : IntMulOk (xs.getD i 0) b := by
  have := h.getD i
  exact IntMulOk.of_left (intBits_le_64 (by omega) (by omega))

local macro_rules | `(tactic| walk_at "subscriptTail") => `(tactic| (k_here; (with_reducible show wpAny _ _ (subscriptTail _ _ (Value.ref _) (Value.int _ _)) _ _ _); k_dflt (refine' item_ints ?k1 ?k2 ?k3 ?k4 ?k5 ?k6 ?_ ?k7; (case k1 => k_asm); (case k2 => k_memK); (case k3 => with_reducible assumption); (case k4 => omega); (case k5 => omega); (case k6 => omega); (case k7 => with_unfolding_all rfl); k_whole); intro _))
local macro_rules | `(tactic| walk_at "binaryOp Mult int int") => `(tactic| (k_here; (with_reducible refine PyProof.Rows.mul_int ?_ (bit_mul (by assumption)))))

example : True := by w_top off; trivial
theorem idx_ok {i nb : Nat} {k' : Int} {xs : List Int} (h1 : 0 ≤ k') (h2 : k' < 0 + ((8 - 0 : Int).toNat : Int)) (h3 : i < nb) (h4 : xs.length = 8 * nb) (h5 : nb = 1 ∨ nb = 2) : 0 ≤ 0 + (i : Int) * 8 + k' ∧ 0 + (i : Int) * 8 + k' < xs.length ∧ 0 + (i : Int) * 8 + k' < 2 ^ 63 := by
  obtain ⟨m, rfl⟩ := Int.eq_ofNat_of_zero_le h1
  have hm : m < 8 := Int.ofNat_lt.1 (Int.lt_of_lt_of_le h2 (by decide))
  have e : 0 + (i : Int) * 8 + m = ((8 * i + m : Nat) : Int) := by rw [Int.zero_add, Int.mul_comm]; rfl
  have hx : 8 * i + m < 8 * nb := Nat.lt_of_lt_of_le (Nat.add_lt_add_left hm _) (Nat.mul_le_mul_left 8 h3)
  rw [e, h4]
  exact ⟨Int.natCast_nonneg _, Int.ofNat_lt.2 hx, Int.lt_trans (Int.ofNat_lt.2 hx) (by rcases h5 with rfl | rfl <;> decide)⟩
theorem packed_bits {black : Bool} {row : List Int} {n : Nat} {xs : List Int} (hb : Bits row) (hxs : List.map (fun k' => if black = true then k' else 1 - k') row ++ (List.replicate n [(0 : Int)]).flatten = xs) : Bits xs := by
  subst hxs
  intro b hb'
  rcases List.mem_append.mp hb' with h | h
  · obtain ⟨c, hc, rfl⟩ := List.mem_map.mp h
    have := hb c hc
    cases black
    · simp; exact flip01 this
    · simp; exact this
  · obtain ⟨l, hl, h⟩ := List.mem_flatten.mp h
    rw [List.eq_of_mem_replicate hl] at h
    exact .inl (List.mem_singleton.mp h)
theorem oct_sum (xs : List Int) (i : Nat) : (List.map (fun k' => xs.getD (0 + (i : Int) * 8 + k').toNat 0 * 2 ^ (7 - k').toNat) (rangeKs 0 (8 - 0 : Int).toNat)).sum = oct xs i := by
  have e : rangeKs 0 (8 - 0 : Int).toNat = [0, 1, 2, 3, 4, 5, 6, 7] := by decide
  rw [e]
  unfold oct
  have h0 : (0 + (i : Int) * 8 + 0).toNat = 8 * i := oj i 0
  have h1 : (0 + (i : Int) * 8 + 1).toNat = 8 * i + 1 := oj i 1
  have h2 : (0 + (i : Int) * 8 + 2).toNat = 8 * i + 2 := oj i 2
  have h3 : (0 + (i : Int) * 8 + 3).toNat = 8 * i + 3 := oj i 3
  have h4 : (0 + (i : Int) * 8 + 4).toNat = 8 * i + 4 := oj i 4
  have h5 : (0 + (i : Int) * 8 + 5).toNat = 8 * i + 5 := oj i 5
  have h6 : (0 + (i : Int) * 8 + 6).toNat = 8 * i + 6 := oj i 6
  have h7 : (0 + (i : Int) * 8 + 7).toNat = 8 * i + 7 := oj i 7
  simp only [List.map_cons, List.map_nil, List.sum_cons, List.sum_nil, h0, h1, h2, h3, h4, h5, h6, h7]
  have p0 : (2 : Int) ^ (7 - 0 : Int).toNat = 128 := by decide
  have p1 : (2 : Int) ^ (7 - 1 : Int).toNat = 64 := by decide
  have p2 : (2 : Int) ^ (7 - 2 : Int).toNat = 32 := by decide
  have p3 : (2 : Int) ^ (7 - 3 : Int).toNat = 16 := by decide
  have p4 : (2 : Int) ^ (7 - 4 : Int).toNat = 8 := by decide
  have p5 : (2 : Int) ^ (7 - 5 : Int).toNat = 4 := by decide
  have p6 : (2 : Int) ^ (7 - 6 : Int).toNat = 2 := by decide
  have p7 : (2 : Int) ^ (7 - 7 : Int).toNat = 1 := by decide
  rw [p0, p1, p2, p3, p4, p5, p6, p7]
  omega
theorem oct_zeros (l : List Int) (n j : Nat) : oct (l ++ (List.replicate n [(0 : Int)]).flatten) j = oct l j := by
  have key : ∀ i, (l ++ (List.replicate n [(0 : Int)]).flatten).getD i 0 = l.getD i 0 := fun i => by
    have e : (List.replicate n [(0 : Int)]).flatten = List.replicate n 0 := by
      induction n with
      | zero => rfl
      | succ n ih => rw [List.replicate_succ, List.flatten_cons, ih, List.replicate_succ]; rfl
    rw [e, List.getD_eq_getElem?_getD, List.getD_eq_getElem?_getD]
    by_cases h : i < l.length
    · rw [List.getElem?_append_left h]
    · rw [List.getElem?_append_right (Nat.not_lt.1 h), List.getElem?_replicate, List.getElem?_eq_none (Nat.not_lt.1 h)]
      split <;> rfl
  unfold oct
  simp only [key]
theorem packed_pk {black : Bool} {row : List Int} {n nb : Nat} {xs : List Int} {wd : Int} (hl : (row.length : Int) = wd) (h0 : 1 ≤ wd) (hw : wd ≤ 12) (hb : Bits row) (hxs : List.map (fun k' => if black = true then k' else 1 - k') row ++ (List.replicate n [(0 : Int)]).flatten = xs) (hn : n = ((-(row.length : Int)).fmod 8).toNat) (hlb : xs.length = 8 * nb) : byteArr ((List.range nb).map (oct xs)) = pk black row := by
  have hbits : (if black = true then (inv row).map (fun b => 1 - b) else inv row) = List.map (fun k' => if black = true then k' else 1 - k') row := by
    cases black
    · simp [inv]
    · simp only [if_true, inv, List.map_map]
      refine List.map_congr_left fun b _ => ?_
      simp only [Function.comp]
      exact Int.sub_sub_self 1 b
  have hlen : (List.map (fun k' => if black = true then k' else 1 - k') row).length = row.length := List.length_map _
  have hB : Bits (List.map (fun k' => if black = true then k' else 1 - k') row) := packed_bits (black := black) (n := 0) hb (by simp)
  have hM : (((inv row).length + 7 : Int).fdiv 8).toNat = nb := by
    rw [inv_len]
    rw [← hxs, List.length_append, List.length_map, List.length_flatten, List.map_replicate, List.sum_replicate_nat, hn, negmod8] at hlb
    simp only [List.length_singleton, Nat.mul_one] at hlb
    exact up8_eq hlb (Nat.mod_lt _ (by decide))
  unfold pk rowOct
  rw [hbits, hM, packs_eq nb _ hB (by
    rw [hlen]
    rw [← hxs, List.length_append, List.length_map] at hlb
    exact hlb ▸ Nat.le_add_right _ _)]
  congr 1
  refine List.map_congr_left fun j _ => ?_
  rw [← hxs, oct_zeros]
section
variable {w : World} {mean : ExcName → Option Value} {mg mb : Str → Option Value} {dp un : Nat} {gd : Option (List Code)} {cn : Str} {cs : Scope} {a : Addr} {ccd : Value} {cl : List (Str × Addr)} {outer : List Env} {A₀ : Around} {base h₀ : Heap} {L : Addr} {m : Str → Option Value} {s : Shared} {Q E : Value → Shared → Prop}
theorem packed_tells (l : Nat) (nn : Nat) (vs : List Value) (row : List Int) (black : Bool) (wd : Int)
 (C : Cx w mean mg mb cs outer A₀ base h₀ L m s.heap) (N : News h₀ L s.heap [(l, listOf vs.toArray nn)]) (hi : IntsAre vs row) (hlen : (row.length : Int) = wd) (hw0 : 1 ≤ wd) (hw : wd ≤ 12) (hb : Bits row) (hdp : dp + 5 < recursionLimit) (hun : un + 60 < cLine)
 (hret : ∀ t h' tk', (∀ b o, s.heap.get? b = some o → h'.get? b = some o) → Q (.bytes (pk black row) t) { s with heap := h', toks := tk' }) :
 wpAny (model PG w) (ktrTop dp un gd cn cs L a ccd cl outer) (call (.ref 600) [.ref l, .bool black]) Q E s := by
  obtain ⟨B, F, X, T, hk⟩ := C
  have hl1 : vs.length = row.length := hi.length
  have hdp0 : dp < 1000 := dn (c := 0) hdp (Nat.zero_le _)
  have hz63 : (row.length : Int) < 2 ^ 63 := by rw [hlen]; exact w63 hw (Int.le_refl _)
  have hf1 := f8_63 (-(row.length : Int))
  have hf2 := f8_n63 (-(row.length : Int))
  have hf3 := f8_1m (-(row.length : Int))
  have hpad : (List.replicate ((-(row.length : Int)).fmod 8).toNat [(0 : Int)]).flatten.length = (8 - row.length % 8) % 8 := by
    rw [List.length_flatten, List.map_replicate, List.sum_replicate_nat, negmod8]; exact Nat.mul_one _
  have hpad2 : row.length + (List.replicate ((-(row.length : Int)).fmod 8).toNat [(0 : Int)]).flatten.length ≤ 16777216 := by
    rw [hpad]; exact Nat.le_trans (Nat.add_le_add (le12 hlen hw) (Nat.le_of_lt (Nat.mod_lt _ (by decide)))) (Nat.le_of_ble_eq_true rfl)
  (have hz : (PySem.Challenge.rw_ao0017_01 : OpenLaw) = PySem.Challenge.rw_ao0017_01 := rfl)
  (rename Frag.In _ _ => kX0)
  revert kX0 hz
  k_fill
  intro kX0 hz
  clear hz
  refine wpAny_call ?_
  with_unfolding_all
   refine' enter_cells B F kX0 N T ?kA ?kF ?kK ?k6 ?k7 ?k8 ?k9 ?kB ?kD ?_ ?c2 ?c3 ?c4
  case kA => exact rfl
  case kF => exact rfl
  case kK => assumption
  case k6 => k_is
  case k7 => k_is
  case k8 => ktr_room
  case k9 => exact BindsTo.of_eq rfl
  case kB => exact rfl
  case kD => decide +kernel
  case c2 => exact rfl
  case c3 => exact rfl
  case c4 => exact rfl
  intro g' L' h' tk' cells' FG' F' N' Y' B' X' T' l1 G'
  (try k_lt l1)
  k_cells Y'
  (try simp only [List.cons_append, List.nil_append] at N')
  have F1 : Fr g' L' h' (fun y => if y = Str.ofString "row" then some (.ref l) else none) := F'
  clear F'
  (rename Obj.data _ = Data.cell (bindC _ _ _ (Str.ofString "black")) => dA)
  have dA1 : _ = Data.cell (some (Value.bool black)) := dA
  clear dA
  (rename Obj.data _ = Data.cell (bindC _ _ _ (Str.ofString "bits")) => dA)
  have dA2 : _ = Data.cell none := dA
  clear dA
  (try dsimp only)
  (try k_fold)
  ktr_enter
  (rename Fr _ _ _ _ => lF)
  (rename News _ _ _ _ => lN)
  (rename IntsAre _ (List.map _ row ++ _) => hIw)
  have hlw := hIw.length
  generalize hxs : (List.map (fun k' => if black = true then k' else 1 - k') row ++ (List.replicate ((-↑row.length : Int).fmod 8).toNat [(0 : Int)]).flatten) = xs at hIw hlw
  have hl8 : xs.length = 8 ∨ xs.length = 16 := by
    rw [← hxs, List.length_append, List.length_map, hpad]
    exact (by decide : ∀ n, n < 13 → 1 ≤ n → n + (8 - n % 8) % 8 = 8 ∨ n + (8 - n % 8) % 8 = 16) row.length (Nat.lt_succ_of_le (le12 hlen hw)) (one_le hlen hw0)
  have hbx : Bits xs := packed_bits hb hxs
  obtain ⟨nb, hnb, hlb⟩ : ∃ nb : Nat, (nb = 1 ∨ nb = 2) ∧ xs.length = 8 * nb := by
    rcases hl8 with h | h
    · exact ⟨1, .inl rfl, h⟩
    · exact ⟨2, .inr rfl, h⟩
  have hlv := hlw.trans hlb
  with_unfolding_all
   refine' comp_cell (cl := [(Str.ofString "bits", L' + 1 + 1)]) lF ?b1 ?b2 ?b3 ?b4 ?b5 ?b6 ?_
  case b1 => rfl
  case b2 => rfl
  case b3 => decide +kernel
  case b4 => rintro _ rfl; rfl
  case b5 => intro n; rfl
  case b6 => intro h; rfl
  ktr_enter
  (rename Fr _ _ _ _ => lF)
  (rename News _ _ _ _ => lN)
  (rename IsRange _ _ _ _ _ _ _ _ => rgX)
  generalize hcells : ([(_, W.listOf _ _), (_, _), (_, _), (_, _), (_, _), (_, _), (l, _)] : List (Addr × Obj)) = cells0 at lN
  refine ⟨_, _, _, _, _, _, _, nb, cells0, fun i ys nx => nx = cells0 ∧ IntsAre ys ((List.range i).map (oct xs)), rfl, ?hh, lF, lN, rgX, ?hsm, ?hn, ?hsz, ⟨rfl, .nil⟩, ?turn, ?done⟩
  case hh => rfl
  case hsm => rcases hnb with rfl | rfl <;> decide +kernel
  case hn => rcases hnb with rfl | rfl <;> decide +kernel
  case hsz => rcases hnb with rfl | rfl <;> decide +kernel
  case turn =>
    rintro i ti ys nx h tk I C K D oI oC oK E' hi ⟨rfl, hys⟩ F2 N2 hK off2 hne
    subst hcells
    clear lF lN
    (rename (Int.fmod _ _ < 0 → _) => z1)
    clear z1
    (rename (0 ≤ Int.fmod _ _ → _) => z1)
    clear z1
    clear hl8 hlw hxs hret hpad hpad2 hf1 hf2 hf3 hz63 hdp0
    (rename Array.size _ = _ => z1)
    clear z1
    (rename List.length (List.flatten _) = _ => z1)
    clear z1
    (rename List.length _ = List.length (List.map _ _) => z1)
    clear z1
    (rename IntsAre _ (List.map _ row) => z1)
    clear z1
    (rename IntsAre _ (List.flatten _) => z1)
    clear z1
    have hk8 : ((8 - 0 : Int).toNat : Int) = 8 := rfl
    have hnb2 : nb ≤ 2 := by rcases hnb with rfl | rfl <;> decide
    ktr_step
    · (rename Fr _ _ _ _ => lF)
      exact lF
    · (rename News _ _ _ _ => lN)
      exact news_sub lN (by k_allIn)
    · exact off2
    · rw [oct_sum, List.range_succ, List.map_append]
      exact hys.append (.cons _ _ .nil)
  case done =>
    rintro ys nx D h tk ⟨rfl, hys⟩ F2 N2 off2
    subst hcells
    (try dsimp only)
    have hin : KBa.In (List.map (oct xs) (List.range nb)) := fun v hv => by
      obtain ⟨j, _, rfl⟩ := List.mem_map.mp hv
      exact oct_in hbx j
    have hln : (List.map (oct xs) (List.range nb)).length = nb := by rw [List.length_map, List.length_range]
    have hnb2 : nb ≤ 2 := by rcases hnb with rfl | rfl <;> decide
    clear lF lN
    ktr_enter
    (rename Fr _ _ _ _ => lF)
    (rename News _ _ _ _ => lN)
    (try dsimp only)
    refine leaveK_ lF lN fun kF kN => ?_
    (try dsimp only)
    rw [packed_pk hlen hw0 hw hb hxs rfl hlb]
    exact hret _ _ _ (aft_same (aft_of N G' lF (news_sub (new := [(l, _)]) lN (by k_allIn))) (fun p hp => (N p hp).1) (fun _ h => h))
end

example : True := by w_top off; trivial
/-- a list of rows, as it lies -/
inductive RowsAt (cells : List (Addr × Obj)) : List Value → List (List Int) → Prop where
  | nil : RowsAt cells [] []
  | cons {a : Addr} {vr vs : List Value} {nn : Nat} {row : List Int} {rows : List (List Int)} : (a, listOf vr.toArray nn) ∈ cells → IntsAre vr row → RowsAt cells vs rows → RowsAt cells (.ref a :: vs) (row :: rows)
theorem flat_rep (n : Nat) : (List.replicate n [(0 : Int)]).flatten = List.replicate n 0 := by
  induction n with
  | zero => rfl
  | succ n ih => rw [List.replicate_succ, List.flatten_cons, ih, List.replicate_succ]; rfl
theorem rowOk_zeros {wd : Int} (h : 1 ≤ wd) : RowOk wd (List.replicate wd.toNat [(0 : Int)]).flatten := by
  rw [flat_rep]
  exact ⟨by rw [List.length_replicate]; exact Int.toNat_of_nonneg (Int.le_trans (by decide) h), fun b hb => .inl (List.eq_of_mem_replicate hb)⟩
/-- the frame of _law_rows between the turns -/
def rowsMap (D l : Addr) (wd : Int) (tw : Tok) (u0 u1 u2 : Option Value) : Str → Option Value := fun y => if y = Str.ofString "number" then u0 else if y = Str.ofString "way" then u1 else if y = Str.ofString "row" then u2 else if y = Str.ofString "rows" then some (.ref D) else if y = Str.ofString "width" then some (.int wd tw) else if y = Str.ofString "numbers" then some (.ref l) else none
theorem rowsMap0 (D l : Addr) (wd : Int) (tw : Tok) : (fun y => if y = Str.ofString "rows" then some (.ref D) else if y = Str.ofString "width" then some (.int wd tw) else if y = Str.ofString "numbers" then some (.ref l) else none) = rowsMap D l wd tw none none none := by
  funext y
  unfold rowsMap
  by_cases h1 : y = Str.ofString "number"
  · subst h1; rw [if_neg (by decide +kernel), if_neg (by decide +kernel), if_neg (by decide +kernel), if_pos rfl]
  · rw [if_neg h1]
    by_cases h2 : y = Str.ofString "way"
    · subst h2; rw [if_neg (by decide +kernel), if_neg (by decide +kernel), if_neg (by decide +kernel), if_pos rfl]
    · rw [if_neg h2]
      by_cases h3 : y = Str.ofString "row"
      · subst h3; rw [if_neg (by decide +kernel), if_neg (by decide +kernel), if_neg (by decide +kernel), if_pos rfl]
      · rw [if_neg h3]
/-- what stands between the turns of _law_rows -/
inductive RowsJ (g : Heap) (gens : Array GenState) (L' l : Addr) (wd : Int) (tw : Tok) (D : Addr) (i : Nat) (m₁ : Str → Option Value) (nx : List (Addr × Obj)) (gs : Array GenState) : Prop where
  | intro : gs = gens → ∀ (u0 u1 u2 : Option Value) (vr : List Value) (nr : Nat) (oa o3 o2 o4 : Obj) (v3 v2 v4 : Option Value) (aa : Addr) (va : List Value) (na : Nat) (arow : List Int) (rest : List (Addr × Obj)) (rows : List (List Int)), m₁ = rowsMap D l wd tw u0 u1 u2 → nx = (D, listOf vr.toArray nr) :: (L' + 1, oa) :: (L' + 1 + 1, o3) :: (L' + 1 + 1 + 1, o2) :: (L' + 1 + 1 + 1 + 1, o4) :: (aa, listOf va.toArray na) :: rest → oa.data = .cell (some (.ref aa)) → o3.data = .cell v3 → o2.data = .cell v2 → o4.data = .cell v4 → RowsAt ((aa, listOf va.toArray na) :: rest) vr rows → (∀ r ∈ rows, RowOk wd r) → rows.length = i → IntsAre va arow → RowOk wd arow → OwnOff ((aa, listOf va.toArray na) :: rest) [D, L' + 1, L' + 1 + 1, L' + 1 + 1 + 1, L' + 1 + 1 + 1 + 1, l] → RowsJ g gens L' l wd tw D i m₁ nx gs
theorem sub_rows {a1 a2 a3 c1 c2 c3 c4 : Addr × Obj} {rest : List (Addr × Obj)} : ∀ p ∈ [a1] ++ (a2 :: a3 :: rest), p ∈ a1 :: a2 :: c1 :: c2 :: c3 :: c4 :: a3 :: rest := fun p hp => by
  simp only [List.cons_append, List.nil_append, List.mem_cons] at hp ⊢
  rcases hp with h | h | h
  · exact .inl h
  · exact .inr (.inl h)
  · exact .inr (.inr (.inr (.inr (.inr (.inr h)))))
theorem rowsMap_of {D l : Addr} {wd : Int} {tw : Tok} {mm : Str → Option Value} (h : ∀ z, z ≠ Str.ofString "number" → z ≠ Str.ofString "way" → z ≠ Str.ofString "row" → mm z = rowsMap D l wd tw none none none z) : mm = rowsMap D l wd tw (mm (Str.ofString "number")) (mm (Str.ofString "way")) (mm (Str.ofString "row")) := by
  funext z
  by_cases h1 : z = Str.ofString "number"
  · subst h1; exact (if_pos rfl).symm
  · by_cases h2 : z = Str.ofString "way"
    · subst h2; unfold rowsMap; rw [if_neg h1, if_pos rfl]
    · by_cases h3 : z = Str.ofString "row"
      · subst h3; unfold rowsMap; rw [if_neg h1, if_neg h2, if_pos rfl]
      · rw [h z h1 h2 h3]; unfold rowsMap; rw [if_neg h1, if_neg h2, if_neg h3, if_neg h1, if_neg h2, if_neg h3]
theorem RowsAt.more {cells cells' : List (Addr × Obj)} {vs : List Value} {rows : List (List Int)} (h : RowsAt cells vs rows) (hs : ∀ p ∈ cells, p ∈ cells') : RowsAt cells' vs rows := by
  induction h with
  | nil => exact .nil
  | cons a b _ ih => exact .cons (hs _ a) b ih
theorem RowsAt.snoc {cells : List (Addr × Obj)} {vs : List Value} {rows : List (List Int)} (h : RowsAt cells vs rows) {a : Addr} {vr : List Value} {nn : Nat} {row : List Int} (hm : (a, listOf vr.toArray nn) ∈ cells) (hi : IntsAre vr row) : RowsAt cells (vs ++ [.ref a]) (rows ++ [row]) := by
  induction h with
  | nil => exact .cons hm hi .nil
  | cons a b _ ih => exact .cons a b ih
theorem RowsAt.len {cells : List (Addr × Obj)} {vs : List Value} {rows : List (List Int)} (h : RowsAt cells vs rows) : vs.length = rows.length := by
  induction h with
  | nil => rfl
  | cons a b _ ih => rw [List.length_cons, List.length_cons, ih]
/-- a turn of _law_rows is done -/
theorem rows_turn {g h : Heap} {gens : Array GenState} {L' l : Addr} {wd : Int} {tw : Tok} {D it ra aa : Addr} {o vl : Obj} {i : Nat} {s : Shared} {Q : Flow → Shared → Prop} {tk : Nat} {mm : Str → Option Value} {vr va vx : List Value} {nr na nx : Nat} {oa' o3' o2' o4' ob1 ob2 ob3 ob4 ob5 : Obj} {v3 v2 v4 : Option Value} {xrow : List Int} {rest cells : List (Addr × Obj)} {rows : List (List Int)}
   (F : Fr g L' h mm) (hmm : ∀ z, z ≠ Str.ofString "number" → z ≠ Str.ofString "way" → z ≠ Str.ofString "row" → mm z = rowsMap D l wd tw none none none z) (N : News g L' h cells)
   (hfix : ∀ p ∈ (it, o) :: (l, vl) :: (D, listOf (vr.toArray.push (.ref ra)) (nr + 1)) :: (L' + 1, oa') :: (L' + 1 + 1, o3') :: (L' + 1 + 1 + 1, o2') :: (L' + 1 + 1 + 1 + 1, o4') :: [], p ∈ cells) (hfx2 : ∀ p ∈ (aa, listOf va.toArray na) :: rest, p ∈ cells) (hmem : (ra, listOf vx.toArray nx) ∈ cells)
   (ha : oa'.data = .cell (some (.ref ra))) (h3 : o3'.data = .cell v3) (h2 : o2'.data = .cell v2) (h4 : o4'.data = .cell v4) (hra : RowsAt ((aa, listOf va.toArray na) :: rest) vr rows) (hro : ∀ r ∈ rows, RowOk wd r) (hrl : rows.length = i) (hix : IntsAre vx xrow) (hxw : RowOk wd xrow)
   (hoff : OwnOff ((aa, listOf va.toArray na) :: rest) [D, L' + 1, L' + 1 + 1, L' + 1 + 1 + 1, L' + 1 + 1 + 1 + 1, l]) (hnew : ∀ b ∈ [D, L' + 1, L' + 1 + 1, L' + 1 + 1 + 1, L' + 1 + 1 + 1 + 1, l], ra ≠ b) (hit : ra ≠ it)
   (hito : ∀ p ∈ (D, ob1) :: (L' + 1, ob2) :: (L' + 1 + 1, ob3) :: (L' + 1 + 1 + 1, ob4) :: (L' + 1 + 1 + 1 + 1, ob5) :: (aa, listOf va.toArray na) :: rest, p.1 ≠ it) (hg : s.gens = gens) :
   GoPost g L' it o [(l, vl)] (RowsJ g gens L' l wd tw D) (i + 1) s Q .next { s with heap := h, toks := tk } := by
  refine ⟨h, tk, s.gens, mm, (D, listOf (vr ++ [Value.ref ra]).toArray (nr + 1)) :: (L' + 1, oa') :: (L' + 1 + 1, o3') :: (L' + 1 + 1 + 1, o2') :: (L' + 1 + 1 + 1 + 1, o4') :: (ra, listOf vx.toArray nx) :: (aa, listOf va.toArray na) :: rest, rfl, F, fun p hp => ?_, fun p hp => ?_, hg, _, _, _, vr ++ [.ref ra], nr + 1, oa', o3', o2', o4', v3, v2, v4, ra, vx, nx, xrow, (aa, listOf va.toArray na) :: rest, rows ++ [xrow], rowsMap_of hmm, rfl, ha, h3, h2, h4, ?_, ?_, ?_, hix, hxw, ?_⟩
  · have e : (vr ++ [Value.ref ra]).toArray = vr.toArray.push (.ref ra) := by simp
    simp only [List.cons_append, List.nil_append, List.mem_cons, e] at hp
    rcases hp with h | h | h | h | h | h | h | h | h
    · exact N p (hfix p (h ▸ .head _))
    · exact N p (hfix p (h ▸ .tail _ (.head _)))
    · exact N p (hfix p (h ▸ .tail _ (.tail _ (.head _))))
    · exact N p (hfix p (h ▸ .tail _ (.tail _ (.tail _ (.head _)))))
    · exact N p (hfix p (h ▸ .tail _ (.tail _ (.tail _ (.tail _ (.head _))))))
    · exact N p (hfix p (h ▸ .tail _ (.tail _ (.tail _ (.tail _ (.tail _ (.head _)))))))
    · exact N p (hfix p (h ▸ .tail _ (.tail _ (.tail _ (.tail _ (.tail _ (.tail _ (.head _))))))))
    · exact h ▸ N _ hmem
    · refine N p (hfx2 p ?_)
      rcases h with h | h
      · exact h ▸ .head _
      · exact .tail _ h
  · simp only [List.mem_cons] at hp
    rcases hp with h | h | h | h | h | h | h | h
    · rw [h]; exact hito (D, ob1) (.head _)
    · rw [h]; exact hito (L' + 1, ob2) (.tail _ (.head _))
    · rw [h]; exact hito (L' + 1 + 1, ob3) (.tail _ (.tail _ (.head _)))
    · rw [h]; exact hito (L' + 1 + 1 + 1, ob4) (.tail _ (.tail _ (.tail _ (.head _))))
    · rw [h]; exact hito (L' + 1 + 1 + 1 + 1, ob5) (.tail _ (.tail _ (.tail _ (.tail _ (.head _)))))
    · rw [h]; exact hit
    · rw [h]; exact hito _ (.tail _ (.tail _ (.tail _ (.tail _ (.tail _ (.head _))))))
    · exact hito _ (.tail _ (.tail _ (.tail _ (.tail _ (.tail _ (.tail _ h))))))
  · exact (hra.more fun p hp => .tail _ hp).snoc (.head _) hix
  · intro r hr
    rcases List.mem_append.mp hr with h | h
    · exact hro r h
    · rw [List.mem_singleton.mp h]; exact hxw
  · rw [List.length_append, hrl]; rfl
  · intro p hp b hb
    rcases List.mem_cons.mp hp with rfl | hp
    · exact hnew b hb
    · exact hoff p hp b hb
theorem rowOk_move {wd : Int} {arow : List Int} (h : RowOk wd arow) (h0 : 1 ≤ wd) : RowOk wd ([0] ++ List.take (wd - 1).toNat arow) := by
  have hl := h.len
  refine ⟨by rw [List.length_append, List.length_take, List.length_singleton, ← hl, Int.pred_toNat, Int.toNat_natCast, Nat.min_eq_left (Nat.sub_le _ _), Nat.add_sub_cancel' (one_le hl h0)], fun b hb => ?_⟩
  rcases List.mem_append.mp hb with q | q
  · exact .inl (List.mem_singleton.mp q)
  · exact h.bits b (List.mem_of_mem_take q)
theorem rowOk_map {wd : Int} {f : Int → Int} (h0 : 1 ≤ wd) (hf : ∀ k, f k = 0 ∨ f k = 1) : RowOk wd (List.map f (rangeKs 0 (wd - 0).toNat)) := by
  refine ⟨by rw [List.length_map, rangeKs_length, Int.sub_zero]; exact Int.toNat_of_nonneg (Int.le_trans (by decide) h0), fun b hb => ?_⟩
  obtain ⟨k, _, rfl⟩ := List.mem_map.mp hb
  exact hf k
theorem bit_flip {arow : List Int} (h : Bits arow) (i : Nat) : 1 - arow.getD i 0 = 0 ∨ 1 - arow.getD i 0 = 1 := by
  exact flip01 (h.getD i)
theorem bit_mod (x : Int) : x.fmod 2 = 0 ∨ x.fmod 2 = 1 := by
  rw [Int.fmod_eq_emod_of_nonneg _ (by decide)]
  omega
theorem aft_nil {h h' : Heap} {adr : List Addr} {cells new : List (Addr × Obj)} (D : Aft h h' adr (cells ++ new)) (hc : ∀ p ∈ cells, h.get? p.1 = some p.2) (ha : ∀ a ∈ adr, a ∈ cells.map (·.1)) (hn : ∀ p ∈ new, p.1 ∉ adr) : Aft h h' [] new := by
  refine ⟨fun b o e _ => aft_same (D.sub fun p hp => List.mem_append_left _ hp) hc ha b o e, fun p hp => D.got p (List.mem_append_right _ hp), fun p hp => .inr ?_⟩
  rcases D.src p (List.mem_append_right _ hp) with q | q
  · exact absurd q (hn p hp)
  · exact q
/-- between two of the ifs of _law_rows -/
inductive RowsP (L' l : Addr) (wd : Int) (tw : Tok) (D it aa : Addr) (o vl : Obj) (vr va : List Value) (nr na : Nat) (oa o3 : Obj) (rest : List (Addr × Obj)) (wy : Int) (f : Flow) (mp : Str → Option Value) (cells : List (Addr × Obj)) : Prop where
  | intro : f = .next → ∀ (u0 : Option Value) (tww : Tok) (ra : Addr) (vx : List Value) (nx : Nat) (xrow : List Int) (o2 o4 : Obj) (v2 v4 : Option Value), mp = rowsMap D l wd tw u0 (some (.int wy tww)) (some (.ref ra)) → cells = (it, o) :: (l, vl) :: (D, listOf vr.toArray nr) :: (L' + 1, oa) :: (L' + 1 + 1, o3) :: (L' + 1 + 1 + 1, o2) :: (L' + 1 + 1 + 1 + 1, o4) :: (ra, listOf vx.toArray nx) :: (aa, listOf va.toArray na) :: rest → o2.data = .cell v2 → o4.data = .cell v4 → IntsAre vx xrow → RowOk wd xrow → @Ne Nat ra D → @Ne Nat ra (L' + 1) → @Ne Nat ra (L' + 1 + 1) → @Ne Nat ra (L' + 1 + 1 + 1) → @Ne Nat ra (L' + 1 + 1 + 1 + 1) → @Ne Nat ra l → @Ne Nat ra it → RowsP L' l wd tw D it aa o vl vr va nr na oa o3 rest wy f mp cells
theorem rows_mid {g h : Heap} {L' l : Addr} {wd : Int} {tw tww : Tok} {D it ra aa : Addr} {o vl : Obj} {s : Shared} {tk : Nat} {mm : Str → Option Value} {vr va vx : List Value} {nr na nx : Nat} {oa o3 o2 o4 : Obj} {v2 v4 : Option Value} {xrow : List Int} {rest cells : List (Addr × Obj)} {wy : Int}
   (F : Fr g L' h mm) (hmm : ∀ z, z ≠ Str.ofString "number" → z ≠ Str.ofString "way" → z ≠ Str.ofString "row" → mm z = rowsMap D l wd tw none none none z) (hw : mm (Str.ofString "way") = some (.int wy tww)) (hrow : mm (Str.ofString "row") = some (.ref ra)) (N : News g L' h cells)
   (hfix : ∀ p ∈ [(it, o), (l, vl), (D, listOf vr.toArray nr), (L' + 1, oa), (L' + 1 + 1, o3), (L' + 1 + 1 + 1, o2), (L' + 1 + 1 + 1 + 1, o4)], p ∈ cells) (hfx2 : ∀ p ∈ (aa, listOf va.toArray na) :: rest, p ∈ cells) (hmem : (ra, listOf vx.toArray nx) ∈ cells)
   (h2 : o2.data = .cell v2) (h4 : o4.data = .cell v4) (hix : IntsAre vx xrow) (hxw : RowOk wd xrow) (e1 : @Ne Nat ra D) (e2 : @Ne Nat ra (L' + 1)) (e3 : @Ne Nat ra (L' + 1 + 1)) (e4 : @Ne Nat ra (L' + 1 + 1 + 1)) (e5 : @Ne Nat ra (L' + 1 + 1 + 1 + 1)) (e6 : @Ne Nat ra l) (e7 : @Ne Nat ra it) :
   Mid g L' s (RowsP L' l wd tw D it aa o vl vr va nr na oa o3 rest wy) .next { s with heap := h, toks := tk } := by
  have hm := rowsMap_of hmm
  rw [hw, hrow] at hm
  refine ⟨h, tk, mm, (it, o) :: (l, vl) :: (D, listOf vr.toArray nr) :: (L' + 1, oa) :: (L' + 1 + 1, o3) :: (L' + 1 + 1 + 1, o2) :: (L' + 1 + 1 + 1 + 1, o4) :: (ra, listOf vx.toArray nx) :: (aa, listOf va.toArray na) :: rest, rfl, F, fun p hp => ?_, rfl, _, tww, ra, vx, nx, xrow, o2, o4, v2, v4, hm, rfl, h2, h4, hix, hxw, e1, e2, e3, e4, e5, e6, e7⟩
  simp only [List.mem_cons] at hp
  rcases hp with h | h | h | h | h | h | h | h | h
  · exact N p (hfix p (h ▸ .head _))
  · exact N p (hfix p (h ▸ .tail _ (.head _)))
  · exact N p (hfix p (h ▸ .tail _ (.tail _ (.head _))))
  · exact N p (hfix p (h ▸ .tail _ (.tail _ (.tail _ (.head _)))))
  · exact N p (hfix p (h ▸ .tail _ (.tail _ (.tail _ (.tail _ (.head _))))))
  · exact N p (hfix p (h ▸ .tail _ (.tail _ (.tail _ (.tail _ (.tail _ (.head _)))))))
  · exact N p (hfix p (h ▸ .tail _ (.tail _ (.tail _ (.tail _ (.tail _ (.tail _ (.head _))))))))
  · exact h ▸ N _ hmem
  · refine N p (hfx2 p ?_)
    rcases h with h | h
    · exact h ▸ .head _
    · exact .tail _ h

local macro_rules | `(tactic| ktr_enter) => `(tactic| ((try k_fold); repeat' (first | (k_unfold; (try dsimp only)) | ((fail_if_success (first | tb_start | with_reducible first | show RaiseQ _ _ _ _ _ | show wpAny _ _ (leaving _ _) _ _ _ | show wpAny _ _ (call (Value.ref _) _) _ _ _ | show wpAny _ _ (exec (Stmt.If _ _ _ _) _) _ _ _ | show GoPost _ _ _ _ _ _ _ _ _ _ _)); first | keq_hits | kct_strs | walk1 | (dsimp only; walk1))); all_goals (try (dsimp only; k_unfold; (try dsimp only)))))

example : True := by w_top off; trivial
theorem way_row : (Str.ofString "way" = Str.ofString "row") = False := eq_false (by decide +kernel)
section
variable {w : World} {mean : ExcName → Option Value} {mg mb : Str → Option Value} {dp un : Nat} {gd : Option (List Code)} {cn : Str} {cs : Scope} {a : Addr} {ccd : Value} {cl : List (Str × Addr)} {outer : List Env} {A₀ : Around} {base h₀ : Heap} {L : Addr} {m : Str → Option Value} {s : Shared} {Q E : Value → Shared → Prop}
theorem rows_tells (l : Nat) (nn : Nat) (vs : List Value) (ns : List Int) (wd : Int) (tw : Tok)
 (C : Cx w mean mg mb cs outer A₀ base h₀ L m s.heap) (N : News h₀ L s.heap [(l, listOf vs.toArray nn)]) (hi : IntsAre vs ns) (hn : ns.length ≤ 3) (hw0 : 1 ≤ wd) (hw : wd ≤ 12) (hdp : dp + 5 < recursionLimit) (hun : un + 60 < cLine)
 (hret : ∀ D vr nr cells rows h' tk', RowsAt cells vr rows → (∀ r ∈ rows, RowOk wd r) → rows.length = ns.length → Aft s.heap h' [] ((D, listOf vr.toArray nr) :: cells) → Q (.ref D) { s with heap := h', toks := tk' }) :
 wpAny (model PG w) (ktrTop dp un gd cn cs L a ccd cl outer) (call (.ref 574) [.ref l, .int wd tw]) Q E s := by
  refine wait fun cW hW => ?_
  obtain ⟨B, F, X, T, hk⟩ := C
  refine hW ?_
  clear hW cW
  have hl1 : vs.length = ns.length := hi.length
  have hdp0 : dp < 1000 := dn (c := 0) hdp (Nat.zero_le _)
  (have hz : (PySem.Challenge.rw_ao0017_01 : OpenLaw) = PySem.Challenge.rw_ao0017_01 := rfl)
  (rename Frag.In _ _ => kX0)
  revert kX0 hz
  k_fill
  intro kX0 hz
  clear hz
  refine wpAny_call ?_
  with_unfolding_all
   refine' enter_cells B F kX0 N T ?kA ?kF ?kK ?k6 ?k7 ?k8 ?k9 ?kB ?kD ?_ ?c2 ?c3 ?c4
  case kA => exact rfl
  case kF => exact rfl
  case kK => assumption
  case k6 => k_is
  case k7 => k_is
  case k8 => ktr_room
  case k9 => exact BindsTo.of_eq rfl
  case kB => exact rfl
  case kD => decide +kernel
  case c2 => exact rfl
  case c3 => exact rfl
  case c4 => exact rfl
  intro g' L' h' tk' cells' FG' F' N' Y' B' X' T' l1 G'
  (try k_lt l1)
  k_cells Y'
  (try simp only [List.cons_append, List.nil_append] at N')
  have F1 : Fr g' L' h' (fun y => if y = Str.ofString "width" then some (.int wd tw) else if y = Str.ofString "numbers" then some (.ref l) else none) := F'
  clear F'
  (rename Obj.data _ = Data.cell (bindC _ _ _ (Str.ofString "above")) => dA)
  have d_above : _ = Data.cell none := dA
  clear dA
  (rename Obj.data _ = Data.cell (bindC _ _ _ (Str.ofString "rest")) => dA)
  have d_rest : _ = Data.cell none := dA
  clear dA
  (rename Obj.data _ = Data.cell (bindC _ _ _ (Str.ofString "first")) => dA)
  have d_first : _ = Data.cell none := dA
  clear dA
  (rename Obj.data _ = Data.cell (bindC _ _ _ (Str.ofString "last")) => dA)
  have d_last : _ = Data.cell none := dA
  clear dA
  (try dsimp only)
  (try k_fold)
  ktr_step
  (rename Fr _ _ _ _ => lF)
  (rename News _ _ _ _ => lN)
  (rename IntsAre _ (List.flatten _) => hz0)
  rw [rowsMap0] at lF
  have NE : ∀ cV : Prop, (∀ (D aa : Nat) (va : List Value) (na : Nat) (oa o3 o2 o4 : Obj) (v3 v2 v4 : Option Value) (arow : List Int), IntsAre va arow → RowOk wd arow → oa.data = .cell (some (.ref aa)) → o3.data = .cell v3 → o2.data = .cell v2 → o4.data = .cell v4 → News g' L' _ ([(l, listOf vs.toArray nn), (D, listOf [].toArray 0), (L' + 1, oa), (L' + 1 + 1, o3), (L' + 1 + 1 + 1, o2), (L' + 1 + 1 + 1 + 1, o4), (aa, listOf va.toArray na)]) → Fr g' L' _ (rowsMap D l wd tw none none none) → @LT.lt Nat _ (L' + 1 + 1 + 1 + 1) D → @LT.lt Nat _ D aa → cV) → cV := fun cV kV => kV _ _ _ 0 _ _ _ _ _ _ _ _ hz0 (rowOk_zeros hw0) (by assumption) d_rest d_first d_last (news_sub lN (by k_allIn)) lF (by first | kl_no | omega) (by first | kl_no | omega)
  clear lF lN hz0
  refine NE _ ?_
  clear NE
  intro D aa va na oa o3 o2 o4 v3 v2 v4 arow hz0 hzr ha h3 h2 h4 lN lF hD haD
  refine wpAny_For ?_
  ktr_step
  refine go_list (J := RowsJ g' s.gens L' l wd tw D) rfl lF lN rfl rfl rfl rfl ?hE ⟨rfl, none, none, none, [], 0, oa, o3, o2, o4, v3, v2, v4, aa, va, na, arow, [], [], rfl, rfl, ha, h3, h2, h4, .nil, fun _ h => absurd h List.not_mem_nil, rfl, hz0, hzr, ?hoff⟩ ?turn ?done
  case hE => passes_own
  case hoff =>
    intro p hp b hb
    rw [List.mem_singleton.mp hp]
    simp only [List.mem_cons, List.not_mem_nil, or_false] at hb
    rcases hb with rfl | rfl | rfl | rfl | rfl | rfl <;> exact fun e => absurd (show (aa : Nat) = _ from e) (by omega)
  case turn =>
    intro i v m₁ nx hh tk gs it o hv hZ10 hitl hito F5 N5
    refine wait fun cW hW => ?_
    obtain ⟨rfl, u0, u1, u2, vr, nr, oa, o3, o2, o4, v3, v2, v4, aa, va, na, arow, rest, rows, rfl, rfl, ha, h3, h2, h4, hra, hro, hrl, hia, haw, hoff⟩ := hZ10
    refine hW ?_
    clear hW cW
    have hun0 : (fun y => if y = Str.ofString "number" then some v else rowsMap D l wd tw u0 u1 u2 y) = rowsMap D l wd tw (some v) u1 u2 := by
      funext y
      unfold rowsMap
      by_cases e : y = Str.ofString "number"
      · rw [if_pos e, if_pos e]
      · rw [if_neg e, if_neg e, if_neg e]
    rw [hun0] at F5
    clear hun0
    have hvi : i < vs.length := by
      have := (Array.getElem?_eq_some_iff.mp hv).1
      simpa using this
    have hvi2 : i < ns.length := by rw [← hl1]; exact hvi
    obtain ⟨tv, hvv⟩ := ints_at hi i hvi2
    have hve : v = .int (ns.getD i 0) tv := by
      rw [List.getElem?_toArray, hvv] at hv
      exact (Option.some.inj hv).symm
    subst hve
    generalize ns.getD i 0 = nb at F5
    clear hv hvv
    have N6 : News g' L' hh ((it, o) :: (l, listOf vs.toArray nn) :: (D, listOf vr.toArray nr) :: (L' + 1, oa) :: (L' + 1 + 1, o3) :: (L' + 1 + 1 + 1, o2) :: (L' + 1 + 1 + 1 + 1, o4) :: (aa, listOf va.toArray na) :: rest) := N5
    clear N5
    have F6 : Fr g' L' hh _ := F5
    clear F5
    unfold rowsMap at F6
    have q1 : @Ne Nat D it := hito _ (.head _)
    have q2 : @Ne Nat (L' + 1) it := hito _ (.tail _ (.head _))
    have q3 : @Ne Nat (L' + 1 + 1) it := hito _ (.tail _ (.tail _ (.head _)))
    have q4 : @Ne Nat (L' + 1 + 1 + 1) it := hito _ (.tail _ (.tail _ (.tail _ (.head _))))
    have q5 : @Ne Nat (L' + 1 + 1 + 1 + 1) it := hito _ (.tail _ (.tail _ (.tail _ (.tail _ (.head _)))))
    have q6 : @Ne Nat aa it := hito _ (.tail _ (.tail _ (.tail _ (.tail _ (.tail _ (.head _))))))
    have r1 : @Ne Nat aa D := hoff _ (.head _) _ (.head _)
    have r2 : @Ne Nat aa (L' + 1) := hoff _ (.head _) _ (.tail _ (.head _))
    have r3 : @Ne Nat aa (L' + 1 + 1) := hoff _ (.head _) _ (.tail _ (.tail _ (.head _)))
    have r4 : @Ne Nat aa (L' + 1 + 1 + 1) := hoff _ (.head _) _ (.tail _ (.tail _ (.tail _ (.head _))))
    have r5 : @Ne Nat aa (L' + 1 + 1 + 1 + 1) := hoff _ (.head _) _ (.tail _ (.tail _ (.tail _ (.tail _ (.head _)))))
    have hoff2 : OwnOff rest [D, L' + 1, L' + 1 + 1, L' + 1 + 1 + 1, L' + 1 + 1 + 1 + 1, l] := fun p hp => hoff p (.tail _ hp)
    have r6 : @Ne Nat aa l := hoff _ (.head _) _ (by k_memK)
    have hal : (arow.length : Int) = wd := haw.len
    have hlen : va.length = wd.toNat := by rw [hia.length, ← hal]; exact (Int.toNat_natCast _).symm
    have hnr : vr.length ≤ 3 := by rw [hra.len, hrl]; exact Nat.le_trans (Nat.le_of_lt hvi2) hn
    have hwn2 : ((wd.toNat : Nat) : Int) = wd := Int.toNat_of_nonneg (Int.le_trans (by decide) hw0)
    have hwn : ((wd - 0 : Int).toNat : Int) = wd := by rw [Int.sub_zero]; exact hwn2
    have hna : wd.natAbs < 1073741824 := by rw [← hal, Int.natAbs_natCast]; exact Nat.lt_of_le_of_lt (le12 hal hw) (Nat.le_of_ble_eq_true rfl)
    have hmn : 0 + 1 + min (wd - 1).toNat arow.length ≤ 16777216 := Nat.le_trans (Nat.add_le_add_left (Nat.le_trans (Nat.min_le_right _ _) (le12 hal hw)) (0 + 1)) (Nat.le_of_ble_eq_true rfl)
    have hva : va.length ≤ 16777216 := by rw [hia.length]; exact Nat.le_trans (le12 hal hw) (Nat.le_of_ble_eq_true rfl)
    (try dsimp only)
    ktr_enter
    generalize (nb.fmod (10 ^ Int.toNat 9)).fmod 4 = wy at *
    generalize (nb.fmod (10 ^ Int.toNat 9)).fdiv 4 = rv at *
    (rename Obj.data _ = Data.cell (some (Value.int rv _)) => dR)
    (rename Obj => oR)
    (rename Fr _ _ _ _ => lF)
    (rename News _ _ _ _ => lN)
    refine cut (Q₁ := Mid g' L' s (RowsP L' l wd tw D it aa o (listOf vs.toArray nn) vr va nr na oa oR rest wy)) ?_ ?_
    · ktr_step
      all_goals (
        (rename Fr _ _ _ _ => lF)
        (rename News _ _ _ _ => lN)
        refine' rows_mid (rest := rest) (aa := aa) (va := va) lF ?m ?hw ?hr lN ?fix ?fx2 ?mem ?h2 ?h4 ?ix ?xw ?e1 ?e2 ?e3 ?e4 ?e5 ?e6 ?e7
        case m => intro z a b c; simp only [if_neg a, if_neg b, if_neg c, rowsMap]
        case hw => (simp only [way_row, if_false, if_true]; rfl)
        case hr => (simp only [if_true]; rfl)
        case fix => k_allIn
        case fx2 => exact fun p hp => by (repeat (first | exact hp | apply List.Mem.tail))
        case mem => k_memK
        case h2 => assumption
        case h4 => assumption
        case ix => assumption
        case xw => first | exact haw | exact rowOk_move haw hw0
        case e1 => first | k_ne | omega
        case e2 => first | k_ne | omega
        case e3 => first | k_ne | omega
        case e4 => first | k_ne | omega
        case e5 => first | k_ne | omega
        case e6 => first | k_ne | omega
        case e7 => first | k_ne | omega)
    · clear lF lN
      intro f s' hZ2
      refine wait fun cW hW => ?_
      obtain ⟨h7, tk7, mp7, cells7, rfl, F7, N7, rfl, u0, tww, ra, vx, nx, xrow, o2, o4, v2, v4, rfl, rfl, h2, h4, hix, hxw, e1, e2, e3, e4, e5, e6, e7⟩ := hZ2
      refine hW ?_
      clear hW cW
      unfold rowsMap at F7
      (try dsimp only)
      ktr_enter
      refine cut (Q₁ := Mid g' L' s (RowsP L' l wd tw D it aa o (listOf vs.toArray nn) vr va nr na oa oR rest wy)) ?_ ?_
      · ktr_step
        all_goals (
          (rename Fr _ _ _ _ => lF)
          (rename News _ _ _ _ => lN)
          refine' rows_mid (rest := rest) (aa := aa) (va := va) lF ?m ?hw ?hr lN ?fix ?fx2 ?mem ?h2 ?h4 ?ix ?xw ?e1 ?e2 ?e3 ?e4 ?e5 ?e6 ?e7
          case m => intro z a b c; simp only [if_neg a, if_neg b, if_neg c, rowsMap]
          case hw => (simp only [way_row, if_false, if_true]; rfl)
          case hr => (simp only [if_true]; rfl)
          case fix => k_allIn
          case fx2 => exact fun p hp => by (repeat (first | exact hp | apply List.Mem.tail))
          case mem => k_memK
          case h2 => assumption
          case h4 => assumption
          case ix => assumption
          case xw => first | exact hxw | exact rowOk_map hw0 (fun k => by (split <;> first | exact bit_flip haw.bits _ | (split <;> exact haw.bits.getD _)))
          case e1 => first | k_ne | omega
          case e2 => first | k_ne | omega
          case e3 => first | k_ne | omega
          case e4 => first | k_ne | omega
          case e5 => first | k_ne | omega
          case e6 => first | k_ne | omega
          case e7 => first | k_ne | omega)
      · intro f s' hZ2
        refine wait fun cW hW => ?_
        obtain ⟨h7, tk7, mp7, cells7, rfl, F7, N7, rfl, u0, tww, ra, vx, nx, xrow, o2, o4, v2, v4, rfl, rfl, h2, h4, hix, hxw, e1, e2, e3, e4, e5, e6, e7⟩ := hZ2
        refine hW ?_
        clear hW cW
        unfold rowsMap at F7
        (try dsimp only)
        ktr_enter
        refine cut (Q₁ := Mid g' L' s (RowsP L' l wd tw D it aa o (listOf vs.toArray nn) vr va nr na oa oR rest wy)) ?_ ?_
        · ktr_step
          all_goals (
            (rename Fr _ _ _ _ => lF)
            (rename News _ _ _ _ => lN)
            refine' rows_mid (rest := rest) (aa := aa) (va := va) lF ?m ?hw ?hr lN ?fix ?fx2 ?mem ?h2 ?h4 ?ix ?xw ?e1 ?e2 ?e3 ?e4 ?e5 ?e6 ?e7
            case m => intro z a b c; simp only [if_neg a, if_neg b, if_neg c, rowsMap]
            case hw => (simp only [way_row, if_false, if_true]; rfl)
            case hr => (simp only [if_true]; rfl)
            case fix => k_allIn
            case fx2 => exact fun p hp => by (repeat (first | exact hp | apply List.Mem.tail))
            case mem => k_memK
            case h2 => assumption
            case h4 => assumption
            case ix => assumption
            case xw => first | exact hxw | exact rowOk_map hw0 (fun k => bit_mod _)
            case e1 => first | k_ne | omega
            case e2 => first | k_ne | omega
            case e3 => first | k_ne | omega
            case e4 => first | k_ne | omega
            case e5 => first | k_ne | omega
            case e6 => first | k_ne | omega
            case e7 => first | k_ne | omega)
        · intro f s' hZ2
          refine wait fun cW hW => ?_
          obtain ⟨h7, tk7, mp7, cells7, rfl, F7, N7, rfl, u0, tww, ra, vx, nx, xrow, o2, o4, v2, v4, rfl, rfl, h2, h4, hix, hxw, e1, e2, e3, e4, e5, e6, e7⟩ := hZ2
          refine hW ?_
          clear hW cW
          unfold rowsMap at F7
          (try dsimp only)
          ktr_step
          (rename Fr _ _ _ _ => lF)
          (rename News _ _ _ _ => lN)
          refine' rows_turn (rest := rest) (aa := aa) (va := va) lF ?m lN ?fix ?fx2 ?mem ?h1 ?h3 ?h2 ?h4 hra hro hrl hix hxw hoff ?new e7 hito rfl
          case m => intro z a b c; simp only [if_neg a, if_neg b, if_neg c, rowsMap]
          case fix => k_allIn
          case fx2 => exact fun p hp => by (repeat (first | exact hp | apply List.Mem.tail))
          case mem => k_memK
          case h1 => assumption
          case h3 => assumption
          case h2 => assumption
          case h4 => assumption
          case new =>
            intro b hb
            simp only [List.mem_cons, List.not_mem_nil, or_false] at hb
            rcases hb with rfl | rfl | rfl | rfl | rfl | rfl <;> assumption
  case done =>
    intro hh tk gs m₁ nx hZ5 F5 N5
    refine wait fun cW hW => ?_
    obtain ⟨rfl, u0, u1, u2, vr, nr, oa, o3, o2, o4, v3, v2, v4, aa, va, na, arow, rest, rows, rfl, rfl, ha, h3, h2, h4, hra, hro, hrl, hia, haw, hoff⟩ := hZ5
    refine hW ?_
    clear hW cW
    (try dsimp only)
    unfold rowsMap at F5
    ktr_step
    (try dsimp only)
    (rename Fr _ _ _ _ => lF)
    (rename News _ _ _ _ => lN)
    refine leaveK_ lF lN fun kF kN => ?_
    (try dsimp only)
    have hA := aft_of N G' lF (news_sub (new := [(l, listOf vs.toArray nn)] ++ ((D, listOf vr.toArray nr) :: (aa, listOf va.toArray na) :: rest)) lN sub_rows)
    refine hret D vr nr _ rows _ _ hra hro (by rw [hrl, List.size_toArray]; exact hl1) (aft_nil hA (fun p hp => (N p hp).1) (fun _ h => h) fun p hp hm => ?_)
    have hm : p.1 = l := List.mem_singleton.mp hm
    rcases List.mem_cons.mp hp with rfl | hp
    · exact absurd (show (D : Nat) = l from hm) (by omega)
    · exact hoff p hp l (by k_memK) hm
end

example : True := by w_top off; trivial
theorem strBits_len (x : Str) : (strBits x).length = x.length := by
  show (x.cps.toList.map _).length = x.cps.size
  rw [List.length_map, Array.length_toList]
theorem str_roomB {x y : Str} (h : x.length ≤ 100000) (h2 : y.length ≤ 100000) : x.length + y.length ≤ sizeLine := by rw [sizeLine_eq]; exact Nat.le_trans (Nat.add_le_add h h2) (Nat.le_of_ble_eq_true rfl)
local macro_rules | `(tactic| walk_at "binaryOp Add str str") => `(tactic| (k_here; (with_reducible show wpAny _ _ (binaryOp Operator.Add (Value.str _ _) (Value.str _ _)) _ _ _); (refine add_str ?_ (str_roomB (by assumption) (by assumption))); intro _ _))
theorem RowsAt.get {cells : List (Addr × Obj)} {vs : List Value} {rows : List (List Int)} (h : RowsAt cells vs rows) : ∀ {i : Nat} {v : Value}, vs[i]? = some v → ∃ a vr nn row, v = .ref a ∧ (a, listOf (List.toArray vr) nn) ∈ cells ∧ IntsAre vr row ∧ rows[i]? = some row := by
  induction h with
  | nil => intro i v h; simp at h
  | @cons a vr vs nn row rows hm hi _ ih =>
    intro i v h
    cases i with
    | zero => exact ⟨a, vr, nn, row, by simpa using h.symm, hm, hi, rfl⟩
    | succ i =>
      refine wait fun cW hW => ?_
      obtain ⟨a', vr', nn', row', e1, e2, e3, e4⟩ := ih (by simpa using h)
      refine hW ?_
      clear hW cW
      exact ⟨a', vr', nn', row', e1, e2, e3, by simpa using e4⟩
def octMap (u : Option Value) (code : Str) (tc : Tok) (e ab D : Addr) (al ended : Bool) (wd : Int) (tw : Tok) : Str → Option Value := fun y => if y = Str.ofString "row" then u else if y = Str.ofString "code" then some (.str code tc) else if y = Str.ofString "ends" then some (.ref e) else if y = Str.ofString "above" then some (.ref ab) else
  List.lookup y [(Str.ofString "ended", Value.bool ended), (Str.ofString "aligned", Value.bool al), (Str.ofString "width", .int wd tw), (Str.ofString "rows", Value.ref D)]
theorem octMap0 {code : Str} {tc : Tok} {e ab D : Addr} {al ended : Bool} {wd : Int} {tw : Tok} : (fun y => if y = Str.ofString "code" then some (.str code tc) else if y = Str.ofString "ends" then some (.ref e) else if y = Str.ofString "above" then some (.ref ab) else
  List.lookup y [(Str.ofString "ended", Value.bool ended), (Str.ofString "aligned", Value.bool al), (Str.ofString "width", .int wd tw), (Str.ofString "rows", Value.ref D)]) = octMap none code tc e ab D al ended wd tw := by
  funext y
  unfold octMap
  by_cases h1 : y = Str.ofString "row"
  · subst h1
    rw [if_neg (by decide +kernel), if_neg (by decide +kernel), if_neg (by decide +kernel), if_pos rfl]
    kernel_rfl
  · rw [if_neg h1]
/-- what stands between the rows of _law_octets -/
inductive OctJ (P : Params) (gens : Array GenState) (al ended : Bool) (wd : Int) (tw : Tok) (rows : List (List Int)) (zrow : List Int) (e D z : Addr) (vz : List Value) (nz : Nat) (cells : List (Addr × Obj)) (i : Nat) (m₁ : Str → Option Value) (nx : List (Addr × Obj)) (gs : Array GenState) : Prop where
  | intro : gs = gens → ∀ (u : Option Value) (code : Str) (tc : Tok) (ab : Addr) (ve va : List Value) (ne na : Nat) (ends arow : List Int), m₁ = octMap u code tc e ab D al ended wd tw → nx = (e, listOf ve.toArray ne) :: (z, listOf vz.toArray nz) :: cells → IntsAre ve ends → ends.length = i → code.length ≤ 13100 * i → (ab, listOf va.toArray na) ∈ (z, listOf vz.toArray nz) :: cells → IntsAre va arow → RowOk wd arow → (∀ bits' ends', PicR P al (rows.drop i) arow code.length bits' ends' → PicR P al rows zrow 0 (strBits code ++ bits') (ends ++ ends')) → OctJ P gens al ended wd tw rows zrow e D z vz nz cells i m₁ nx gs
theorem zero_bits (n : Int) : strBits (Txt.mul (Str.ofString "0") n) = List.replicate n.toNat false := by
  have e : Str.ofString "0" = ⟨#[48]⟩ := by decide +kernel
  rw [e]
  show (Txt.mul ⟨#[48]⟩ n).cps.toList.map _ = _
  rw [mul_one_list, List.map_replicate]
  rfl
theorem zero_len (n : Int) : (Txt.mul (Str.ofString "0") n).length = n.toNat := by
  rw [← strBits_len, zero_bits, List.length_replicate]
theorem pad_eq (n : Nat) : ((-(n : Int)).fmod 8).toNat = (8 - n % 8) % 8 := negmod8 n
theorem oct_pic {P : Params} {al : Bool} {rows : List (List Int)} {arow row zrow : List Int} {code cd code' : Str} {ends : List Int} {i : Nat} (hdrop : rows.drop i = row :: rows.drop (i + 1)) (hcr : CodeR P row arow (-1) 0 (strBits cd)) (hpic : ∀ bits' ends', PicR P al (rows.drop i) arow code.length bits' ends' → PicR P al rows zrow 0 (strBits code ++ bits') (ends ++ ends'))
   (hb : strBits code' = strBits code ++ (strBits cd ++ List.replicate (padN al (code.length + cd.length)) false)) : ∀ bits' ends', PicR P al (rows.drop (i + 1)) row code'.length bits' ends' → PicR P al rows zrow 0 (strBits code' ++ bits') (ends ++ [((code ++ cd).length : Int)] ++ ends') := by
  intro bits' ends' h
  have hl : code'.length = code.length + (strBits cd).length + padN al (code.length + (strBits cd).length) := by
    rw [← strBits_len, hb, List.length_append, List.length_append, List.length_replicate, strBits_len, strBits_len]
    exact (Nat.add_assoc _ _ _).symm
  rw [hl] at h
  have := PicR.cons hcr h
  rw [← hdrop] at this
  have h2 := hpic _ _ this
  rw [strBits_len] at h2
  rw [hb, len_app]
  simpa [List.append_assoc] using h2
theorem oct_turn {P : Params} {g h : Heap} {gens : Array GenState} {L' it ra e D z : Addr} {al ended : Bool} {wd : Int} {tw tc' tx : Tok} {rows : List (List Int)} {zrow ends row : List Int} {o lst ob : Obj} {vz vx ve : List Value} {nz nx ne : Nat} {cells : List (Addr × Obj)} {i : Nat} {s : Shared} {Q : Flow → Shared → Prop} {tk : Nat} {mm : Str → Option Value} {code' : Str} {x : Int}
   (F : Fr g L' h mm) (hmm : mm = octMap (some (.ref ra)) code' tc' e ra D al ended wd tw) (N : News g L' h ((it, o) :: (D, lst) :: (e, listOf (ve.toArray.push (.int x tx)) (ne + 1)) :: (z, listOf vz.toArray nz) :: cells)) (off : ∀ p ∈ (e, ob) :: (z, listOf vz.toArray nz) :: cells, p.1 ≠ it)
   (hie : IntsAre ve ends) (hil : ends.length = i) (hcl : code'.length ≤ 13100 * (i + 1)) (hmr : (ra, listOf vx.toArray nx) ∈ cells) (hix : IntsAre vx row) (hxw : RowOk wd row) (hg : s.gens = gens)
   (hp : ∀ bits' ends', PicR P al (rows.drop (i + 1)) row code'.length bits' ends' → PicR P al rows zrow 0 (strBits code' ++ bits') (ends ++ [x] ++ ends')) :
   GoPost g L' it o [(D, lst)] (OctJ P gens al ended wd tw rows zrow e D z vz nz cells) (i + 1) s Q .next { s with heap := h, toks := tk } := by
  have e1 : (ve ++ [Value.int x tx]).toArray = ve.toArray.push (.int x tx) := by simp
  refine ⟨h, tk, s.gens, mm, (e, listOf (ve ++ [Value.int x tx]).toArray (ne + 1)) :: (z, listOf vz.toArray nz) :: cells, rfl, F, ?_, fun p hp => ?_, hg, some (.ref ra), code', tc', ra, ve ++ [Value.int x tx], vx, ne + 1, nx, ends ++ [x], row, hmm, rfl, hie.append (.cons _ _ .nil), by rw [List.length_append, hil]; rfl, hcl, .tail _ hmr, hix, hxw, hp⟩
  · rw [e1]; exact N
  · rcases List.mem_cons.mp hp with h | h
    · rw [h]; exact off (e, ob) (.head _)
    · exact off p (.tail _ h)
/-- behind the end's mark, or without -/
inductive OctP (al ended : Bool) (wd : Int) (tw : Tok) (e D ab : Addr) (code : Str) (cells : List (Addr × Obj)) (f : Flow) (mp : Str → Option Value) (cs : List (Addr × Obj)) : Prop where
  | intro : f = .next → ∀ (u : Option Value) (code2 : Str) (tc2 : Tok), mp = octMap u code2 tc2 e ab D al ended wd tw → cs = cells → strBits code2 = strBits code ++ (if ended then eofB else []) → code2.length ≤ 39400 → OctP al ended wd tw e D ab code cells f mp cs
theorem eof_len : (Str.ofString "000000000001000000000001").length = 24 := by decide +kernel
theorem eof_room {code : Str} (h : code.length ≤ 39300) : (Str.ofString "000000000001000000000001").length ≤ 100000 := by rw [eof_len]; decide
theorem oct_mid {g h : Heap} {al ended : Bool} {L' e D ab : Addr} {wd : Int} {tw tc2 : Tok} {code code2 : Str} {cells : List (Addr × Obj)} {s : Shared} {tk : Nat} {mm : Str → Option Value} {u : Option Value} (F : Fr g L' h mm) (N : News g L' h cells) (hmm : mm = octMap u code2 tc2 e ab D al ended wd tw) (hb : strBits code2 = strBits code ++ (if ended then eofB else [])) (hl : code2.length ≤ 39400) :
   Mid g L' s (OctP al ended wd tw e D ab code cells) .next { s with heap := h, toks := tk } := ⟨h, tk, mm, cells, rfl, F, N, rfl, u, code2, tc2, hmm, rfl, hb, hl⟩
def oct3Map (code3 : Str) (tc3 : Tok) (oc : Addr) (u : Option Value) (code : Str) (tc : Tok) (e ab D : Addr) (al ended : Bool) (wd : Int) (tw : Tok) : Str → Option Value := fun y => if y = Str.ofString "code" then some (.str code3 tc3) else if y = Str.ofString "octets" then some (.ref oc) else octMap u code tc e ab D al ended wd tw y
/-- three names stored above a map -/
def map3 (M0 : Str → Option Value) (uk uo us : Option Value) : Str → Option Value := fun y => if y = Str.ofString "k" then uk else if y = Str.ofString "octet" then uo else if y = Str.ofString "sign" then us else M0 y
theorem map3_of {M0 mm : Str → Option Value} (h : ∀ z, z ≠ Str.ofString "k" → z ≠ Str.ofString "octet" → z ≠ Str.ofString "sign" → mm z = M0 z) : mm = map3 M0 (mm (Str.ofString "k")) (mm (Str.ofString "octet")) (mm (Str.ofString "sign")) := by
  funext z
  unfold map3
  by_cases h1 : z = Str.ofString "k"
  · subst h1; exact (if_pos rfl).symm
  · by_cases h2 : z = Str.ofString "octet"
    · subst h2; rw [if_neg h1, if_pos rfl]
    · by_cases h3 : z = Str.ofString "sign"
      · subst h3; rw [if_neg h1, if_neg h2, if_pos rfl]
      · rw [if_neg h1, if_neg h2, if_neg h3, h z h1 h2 h3]
/-- what stands between the octets -/
inductive OctK (gens : Array GenState) (bits : List Bool) (oc : Addr) (fixed : List (Addr × Obj)) (M0 : Str → Option Value) (i : Nat) (m₁ : Str → Option Value) (nx : List (Addr × Obj)) (gs : Array GenState) : Prop where
  | intro : gs = gens → ∀ (uk uo us : Option Value) (vo : List Value) (no : Nat), m₁ = map3 M0 uk uo us → nx = (oc, listOf vo.toArray no) :: fixed → IntsAre vo (octsOf bits i) → OctK gens bits oc fixed M0 i m₁ nx gs
theorem small8 {K : Nat} (h : K ≤ 5000) : Builtin.Range.small 0 ((8 * K : Nat) : Int) 8 = true ∧ Builtin.Range.rangeSize 0 ((8 * K : Nat) : Int) 8 = (K : Int) := by
  have e : Builtin.Range.rangeSize 0 ((8 * K : Nat) : Int) 8 = (K : Int) := by
    unfold Builtin.Range.rangeSize
    rw [if_pos (by decide)]
    split <;> omega
  refine ⟨?_, e⟩
  unfold Builtin.Range.small
  rw [e, if_pos (by decide)]
  simp only [Builtin.Range.rangeFitsLong, Bool.and_eq_true, Bool.or_eq_true, decide_eq_true_eq]
  refine ⟨⟨⟨⟨?_, ?_⟩, ?_⟩, ?_⟩, .inr ?_⟩ <;> constructor <;> omega
theorem slice_list {x : Str} {a b : Nat} (hab : a ≤ b) (hb : b ≤ x.length) : (Txt.slice x (some (a : Int)) (some (b : Int))).cps.toList = (x.cps.toList.drop a).take (b - a) := by
  unfold Txt.slice
  split
  · rename_i h
    have e : (Builtin.Str.strSliceIndices (some (a : Int)) (some (b : Int)) 1 x.length).length = x.length := by simpa using h
    rw [StrLaws.strSliceIndices_plain hab hb, List.length_map, List.length_range] at e
    have ha : a = 0 := by omega
    have hb2 : b = x.length := by omega
    subst ha
    rw [hb2, List.drop_zero, Nat.sub_zero]
    exact (List.take_of_length_le (by rw [Array.length_toList]; exact Nat.le_refl _)).symm
  · show (List.toArray _).toList = _
    rw [StrLaws.sliced_plain x hab hb]
theorem codes_bits (x : Str) : (KStt.codes x).map (fun n => n == 49) = strBits x := by
  unfold KStt.codes strBits
  rw [List.map_map]
  refine List.map_congr_left fun c _ => ?_
  simp only [Function.comp]
  rw [Bool.eq_iff_iff]
  simp only [beq_iff_eq]
  exact Int.ofNat_inj (n := 49)
theorem slice_bits {x : Str} {i K : Nat} (hK : x.length = 8 * K) (hi : i < K) : strBits (Txt.slice x (some (0 + (i : Int) * 8)) (some (0 + (i : Int) * 8 + 8))) = ((strBits x).drop (8 * i)).take 8 := by
  have e1 : 0 + (i : Int) * 8 = ((8 * i : Nat) : Int) := by rw [Int.zero_add, Int.mul_comm]; rfl
  have e2 : ((8 * i : Nat) : Int) + 8 = ((8 * i + 8 : Nat) : Int) := rfl
  rw [e1, e2]
  unfold strBits
  rw [slice_list (Nat.le_add_right _ _) (by rw [hK]; exact Nat.mul_le_mul_left 8 hi), List.map_take, List.map_drop]
  congr 1
  exact Nat.add_sub_cancel_left _ _
theorem sign_yes {n : Nat} (h : ((⟨#[n]⟩ : Str) == Str.ofString "1") = true) : n = 49 := by
  have e : Str.ofString "1" = ⟨#[49]⟩ := by decide +kernel
  rw [e] at h
  have h2 : (⟨#[n]⟩ : Str) = ⟨#[49]⟩ := eq_of_beq h
  simpa using h2
theorem sign_no {n : Nat} (h : ((⟨#[n]⟩ : Str) == Str.ofString "1") = false) : n ≠ 49 := by
  rintro rfl
  have e : Str.ofString "1" = ⟨#[49]⟩ := by decide +kernel
  rw [e] at h
  simp at h
theorem val_one {c : Int} {pre : List Int} {n : Nat} (h : c = valB (pre.map fun n => n == 49)) (hn : n = 49) : 2 * c + 1 = valB ((pre ++ [(n : Int)]).map fun n => n == 49) := by
  subst hn
  rw [List.map_append, List.map_cons, List.map_nil, valB_snoc, ← h]
  rfl
theorem val_zero {c : Int} {pre : List Int} {n : Nat} (h : c = valB (pre.map fun n => n == 49)) (hn : n ≠ 49) : 2 * c + 0 = valB ((pre ++ [(n : Int)]).map fun n => n == 49) := by
  have e : ((n : Int) == 49) = false := by
    rw [beq_eq_false_iff_ne]
    exact fun q => hn (Int.ofNat_inj.1 q)
  rw [List.map_append, List.map_cons, List.map_nil, valB_snoc, ← h, e]
  rfl
theorem oct2_turn {g h : Heap} {gens : Array GenState} {L' it oc : Addr} {o ob : Obj} {bits : List Bool} {fixed : List (Addr × Obj)} {M0 mm : Str → Option Value} {vo : List Value} {no i : Nat} {x : Int} {tx : Tok} {s : Shared} {Q : Flow → Shared → Prop} {tk : Nat}
   (F : Fr g L' h mm) (hmm : ∀ z, z ≠ Str.ofString "k" → z ≠ Str.ofString "octet" → z ≠ Str.ofString "sign" → mm z = M0 z) (N : News g L' h ((it, o) :: (oc, listOf (vo.toArray.push (.int x tx)) (no + 1)) :: fixed)) (off : ∀ p ∈ (oc, ob) :: fixed, p.1 ≠ it) (hio : IntsAre vo (octsOf bits i)) (hx : x = valB ((bits.drop (8 * i)).take 8)) (hg : s.gens = gens) :
   GoPost g L' it o [] (OctK gens bits oc fixed M0) (i + 1) s Q .next { s with heap := h, toks := tk } := by
  have e1 : (vo ++ [Value.int x tx]).toArray = vo.toArray.push (.int x tx) := by simp
  refine ⟨h, tk, s.gens, mm, (oc, listOf (vo ++ [Value.int x tx]).toArray (no + 1)) :: fixed, rfl, F, ?_, fun p hp => ?_, hg, _, _, _, vo ++ [Value.int x tx], no + 1, map3_of hmm, rfl, ?_⟩
  · rw [e1]; exact N
  · rcases List.mem_cons.mp hp with h | h
    · rw [h]; exact off (oc, ob) (.head _)
    · exact off p (.tail _ h)
  · rw [octsOf_succ, ← hx]
    exact hio.append (.cons _ _ .nil)
theorem sub_oct {a1 a2 a3 b1 b2 : Addr × Obj} {cells : List (Addr × Obj)} : ∀ p ∈ (b1 :: cells) ++ [a1, a2, a3], p ∈ a1 :: a2 :: b1 :: a3 :: b2 :: cells := fun p hp => by
  simp only [List.cons_append, List.mem_cons, List.mem_append, List.not_mem_nil, or_false] at hp ⊢
  rcases hp with h | h | h | h | h
  · exact .inr (.inr (.inl h))
  · exact .inr (.inr (.inr (.inr (.inr h))))
  · exact .inl h
  · exact .inr (.inl h)
  · exact .inr (.inr (.inr (.inl h)))
theorem row_code : (Str.ofString "row" = Str.ofString "code") = False := eq_false (by decide +kernel)
theorem row_above : (Str.ofString "row" = Str.ofString "above") = False := eq_false (by decide +kernel)
theorem code_row : (Str.ofString "code" = Str.ofString "row") = False := eq_false (by decide +kernel)
theorem code_above : (Str.ofString "code" = Str.ofString "above") = False := eq_false (by decide +kernel)
theorem above_code : (Str.ofString "above" = Str.ofString "code") = False := eq_false (by decide +kernel)
theorem above_row : (Str.ofString "above" = Str.ofString "row") = False := eq_false (by decide +kernel)
theorem above_ends : (Str.ofString "above" = Str.ofString "ends") = False := eq_false (by decide +kernel)
section
variable {w : World} {mean : ExcName → Option Value} {mg mb : Str → Option Value} {dp un : Nat} {gd : Option (List Code)} {cn : Str} {cs : Scope} {a : Addr} {ccd : Value} {cl : List (Str × Addr)} {outer : List Env} {A₀ : Around} {base h₀ : Heap} {L : Addr} {m : Str → Option Value} {s : Shared} {Q E : Value → Shared → Prop}
theorem octets_tells (D : Nat) (vr : List Value) (nr : Nat) (cells : List (Addr × Obj)) (rows : List (List Int)) (wd : Int) (tw : Tok) (al ended : Bool)
 (C : Cx w mean mg mb cs outer A₀ base h₀ L m s.heap) (N : News h₀ L s.heap ((D, listOf vr.toArray nr) :: cells)) (hra : RowsAt cells vr rows) (hro : ∀ r ∈ rows, RowOk wd r) (hn : rows.length ≤ 3) (hw0 : 1 ≤ wd) (hw : wd ≤ 12) (hdp : dp + 9 < recursionLimit) (hun : un + 100 < cLine)
 (hret : ∀ (T oc e : Addr) vo no ve ne bits q K ends h' tk', PicR w.params al rows (List.replicate wd.toNat 0) 0 bits ends → q < 8 → (bits ++ ((if ended then eofB else []) ++ List.replicate q false)).length = 8 * K → K ≤ 5000 → ends.length = rows.length → IntsAre vo (octsOf (bits ++ ((if ended then eofB else []) ++ List.replicate q false)) K) → IntsAre ve ends →
   Aft s.heap h' [] [(T, { cls := .type "tuple", data := .seq #[.ref oc, .ref e] }), (oc, listOf vo.toArray no), (e, listOf ve.toArray ne)] → Q (.ref T) { s with heap := h', toks := tk' }) :
 wpAny (model PG w) (ktrTop dp un gd cn cs L a ccd cl outer) (call (.ref 595) [.ref D, .int wd tw, .bool al, .bool ended]) Q E s := by
  refine wait fun cW hW => ?_
  obtain ⟨B, F, X, T, hk⟩ := C
  refine hW ?_
  clear hW cW
  have hdp0 : dp < recursionLimit := dn (c := 0) hdp (Nat.zero_le _)
  cell_step
  intro g' L' h' FG' F' N' B' X' T' G'
  have F1 : Fr g' L' h' (fun y => List.lookup y [(Str.ofString "ended", Value.bool ended), (Str.ofString "aligned", Value.bool al), (Str.ofString "width", .int wd tw), (Str.ofString "rows", Value.ref D)]) := F'
  clear F'
  (try dsimp only)
  (try k_fold)
  ktr_step
  (rename Fr _ _ _ _ => lF)
  (rename News _ _ _ _ => lN)
  (rename IntsAre _ (List.flatten _) => hz0)
  rw [octMap0] at lF
  have NE : ∀ cV : Prop, (∀ (e z : Nat) (vz : List Value) (nz : Nat) (tc : Tok), IntsAre vz (List.replicate wd.toNat [(0 : Int)]).flatten → News g' L' _ ((D, listOf vr.toArray nr) :: (e, listOf [].toArray 0) :: (z, listOf vz.toArray nz) :: cells) → Fr g' L' _ (octMap none (Str.ofString "") tc e z D al ended wd tw) → @LT.lt Nat _ D e → @LT.lt Nat _ e z → AllLt e cells → cV) → cV := fun cV kV => kV _ _ _ 0 _ hz0 (fun p hp => lN p (by
      simp only [List.mem_cons] at hp ⊢
      rcases hp with h | h | h | h
      · exact .inr (.inr (.inr (.inr (.inl h))))
      · exact .inr (.inr (.inr (.inl h)))
      · exact .inr (.inl h)
      · exact .inr (.inr (.inr (.inr (.inr h)))))) lF (by first | exact And.left (by assumption) | omega) (by first | exact And.left (by assumption) | exact And.left (And.right (by assumption)) | omega) (And.right (by assumption))
  clear lF lN hz0
  refine NE _ ?_
  clear NE
  intro e z vz nz tc hz0 lN lF hDe hez hle
  have hzr := rowOk_zeros hw0
  have hzz : (List.replicate wd.toNat [(0 : Int)]).flatten = List.replicate wd.toNat 0 := flat_rep _
  generalize (List.replicate wd.toNat [(0 : Int)]).flatten = zrow at hz0 hzr hzz
  refine wpAny_For ?_
  (try dsimp only)
  unfold octMap at lF
  ktr_step
  refine go_list (J := OctJ w.params s.gens al ended wd tw rows zrow e D z vz nz cells) rfl lF lN rfl rfl rfl rfl ?hE ⟨rfl, none, Str.ofString "", tc, z, [], vz, 0, nz, [], zrow, rfl, rfl, .nil, rfl, by decide +kernel, .head _, hz0, hzr, fun b' e' h => h⟩ ?turn ?done
  case hE => passes_own
  case turn =>
    clear lF lN
    intro i v m₁ nx hh tk gs it o hv hZ10 hitD hito F5 N5
    refine wait fun cW hW => ?_
    obtain ⟨rfl, u, code, tc, ab, ve, va, ne, na, ends, arow, rfl, rfl, hie, hil, hcl, hmb, hia, haw, hpic⟩ := hZ10
    refine hW ?_
    clear hW cW
    rw [List.getElem?_toArray] at hv
    refine wait fun cW hW => ?_
    obtain ⟨ra, vx, nx, row, rfl, hmr, hix, hrow⟩ := hra.get hv
    refine hW ?_
    clear hW cW
    have hxw : RowOk wd row := hro row (List.mem_of_getElem? hrow)
    have hir : i < rows.length := (List.getElem?_eq_some_iff.mp hrow).1
    have hdrop : rows.drop i = row :: rows.drop (i + 1) := by rw [List.drop_eq_getElem_cons hir, (List.getElem?_eq_some_iff.mp hrow).2]
    have F6 : Fr g' L' hh (octMap (some (.ref ra)) code tc e ab D al ended wd tw) := fr_map F5 (by
      funext y
      unfold octMap
      by_cases h : y = Str.ofString "row"
      · rw [if_pos h, if_pos h]
      · rw [if_neg h, if_neg h, if_neg h])
    clear F5
    have N6 : News g' L' hh ((it, o) :: (D, listOf vr.toArray nr) :: (e, listOf ve.toArray ne) :: (z, listOf vz.toArray nz) :: cells) := N5
    clear N5
    unfold octMap at F6
    have q1 : @Ne Nat e it := hito _ (.head _)
    have q2 : @Ne Nat z it := hito _ (.tail _ (.head _))
    have hc5 : code.length ≤ 100000 := Nat.le_trans hcl (Nat.le_trans (Nat.mul_le_mul_left 13100 (Nat.le_trans (Nat.le_of_lt hir) hn)) (Nat.le_of_ble_eq_true rfl))
    (try dsimp only)
    ktr_step
    (rename Fr _ _ _ _ => lF)
    (rename News _ _ _ _ => lN)
    refine coded_tells (dp := dp + 1) (un := un + 3) ra ab nx na vx va row arow wd ⟨B', lF, X', T', rfl⟩ (fun p hp => ?_) hix hia hxw.len haw.len hw0 hw (dn (a := dp) (c := 6) hdp (by decide)) (dn (a := un) (c := 63) hun (by decide)) ?_
    · simp only [List.mem_cons, List.not_mem_nil, or_false] at hp
      rcases hp with rfl | rfl
      · exact lN _ (.tail _ (.tail _ (.tail _ (.tail _ hmr))))
      · exact lN _ (.tail _ (.tail _ (.tail _ hmb)))
    intro cd tcd h4 tk4 hcr hcdl k1
    have F2 := fr_all lF k1
    have N2 := news_all lN k1
    clear lF lN k1
    have hcd4 : cd.length ≤ 13000 := Int.ofNat_le.1 (Int.le_trans hcdl (Int.mul_le_mul_of_nonneg_left (Int.add_le_add_right hw 1) (by decide)))
    have hcd5 : cd.length ≤ 100000 := Nat.le_trans hcd4 (Nat.le_of_ble_eq_true rfl)
    have hcc : code.length + cd.length ≤ 16777216 := Nat.le_trans (Nat.add_le_add hc5 hcd5) (Nat.le_of_ble_eq_true rfl)
    have hf1 := f8_n63 (-((code ++ cd).length : Int))
    have hf2 := f8_1m (-((code ++ cd).length : Int))
    have hf3 : (code ++ cd).length + (Txt.mul (Str.ofString "0") ((-((code ++ cd).length : Int)).fmod 8)).length ≤ 16777216 := by
      rw [zero_len, pad_eq, len_app]; exact Nat.le_trans (Nat.add_le_add (Nat.add_le_add hc5 hcd5) (Nat.le_of_lt (Nat.mod_lt _ (by decide)))) (Nat.le_of_ble_eq_true rfl)
    (try dsimp only)
    ktr_step
    · (rename Fr _ _ _ _ => lF)
      (rename News _ _ _ _ => lN)
      (rename al = true => hal)
      refine' oct_turn (code' := code ++ cd ++ Txt.mul (Str.ofString "0") ((-((code ++ cd).length : Int)).fmod 8)) lF ?mm lN hito hie hil ?hcl hmr hix hxw rfl (oct_pic hdrop hcr hpic ?hb)
      case mm =>
        funext y
        unfold octMap
        by_cases h1 : y = Str.ofString "row"
        · subst h1; (simp only [row_code, row_above, if_false, if_true])
        · by_cases h2 : y = Str.ofString "code"
          · subst h2; (simp only [code_row, code_above, if_false, if_true]; rfl)
          · by_cases h3 : y = Str.ofString "above"
            · subst h3; (simp only [above_code, above_row, above_ends, if_false, if_true])
            · simp only [if_neg h1, if_neg h2, if_neg h3]
      case hcl =>
        rw [len_app, len_app, zero_len, pad_eq]
        exact Nat.le_trans (Nat.add_le_add (Nat.add_le_add hcl hcd4) (Nat.le_of_lt (Nat.mod_lt _ (by decide)))) (by rw [Nat.mul_succ, Nat.add_assoc]; exact Nat.add_le_add_left (Nat.le_of_ble_eq_true rfl) _)
      case hb =>
        rw [strBits_app, strBits_app, zero_bits, pad_eq, len_app, List.append_assoc, hal]; rfl
    · (rename Fr _ _ _ _ => lF)
      (rename News _ _ _ _ => lN)
      (rename al = false => hal)
      refine' oct_turn (code' := code ++ cd) lF ?mm lN hito hie hil ?hcl hmr hix hxw rfl (oct_pic hdrop hcr hpic ?hb)
      case mm =>
        funext y
        unfold octMap
        by_cases h1 : y = Str.ofString "row"
        · subst h1; (simp only [row_code, row_above, if_false, if_true])
        · by_cases h2 : y = Str.ofString "code"
          · subst h2; (simp only [code_row, code_above, if_false, if_true]; rfl)
          · by_cases h3 : y = Str.ofString "above"
            · subst h3; (simp only [above_code, above_row, above_ends, if_false, if_true])
            · simp only [if_neg h1, if_neg h2, if_neg h3]
      case hcl =>
        rw [len_app]
        exact Nat.le_trans (Nat.add_le_add hcl hcd4) (Nat.add_le_add_left (Nat.le_of_ble_eq_true rfl) _)
      case hb =>
        rw [strBits_app, hal]; (show _ = strBits code ++ (strBits cd ++ [])); rw [List.append_nil]
  case done =>
    clear lF lN
    intro hh tk gs m₁ nx hZ5 F5 N5
    refine wait fun cW hW => ?_
    obtain ⟨rfl, u, code, tc, ab, ve, va, ne, na, ends, arow, rfl, rfl, hie, hil, hcl, hmb, hia, haw, hpic⟩ := hZ5
    refine hW ?_
    clear hW cW
    have hrl : vr.toArray.size = rows.length := by rw [List.size_toArray]; exact hra.len
    rw [hrl] at hil hcl hpic
    rw [List.drop_length] at hpic
    have hP := hpic [] [] .nil
    rw [List.append_nil, List.append_nil] at hP
    have hc5 : code.length ≤ 39300 := Nat.le_trans hcl (Nat.mul_le_mul_left 13100 hn)
    clear hpic hcl
    have hroom := eof_room hc5
    have hc6 : code.length ≤ 100000 := Nat.le_trans hc5 (Nat.le_of_ble_eq_true rfl)
    have N6 : News g' L' hh ((D, listOf vr.toArray nr) :: (e, listOf ve.toArray ne) :: (z, listOf vz.toArray nz) :: cells) := N5
    have F6 : Fr g' L' hh _ := F5
    clear N5 F5
    (try dsimp only)
    unfold octMap at F6
    ktr_enter
    refine cut (Q₁ := Mid g' L' s (OctP al ended wd tw e D ab code ((D, listOf vr.toArray nr) :: (e, listOf ve.toArray ne) :: (z, listOf vz.toArray nz) :: cells))) ?_ ?_
    · ktr_step
      · (rename Fr _ _ _ _ => lF)
        (rename News _ _ _ _ => lN)
        (rename ended = true => hen)
        refine' oct_mid (u := u) (code2 := code ++ Str.ofString "000000000001000000000001") lF lN ?mm ?hb ?hl
        case mm =>
          funext y
          unfold octMap
          by_cases h1 : y = Str.ofString "row"
          · subst h1; (simp only [row_code, if_false, if_true])
          · by_cases h2 : y = Str.ofString "code"
            · subst h2; (simp only [code_row, if_false, if_true]; rfl)
            · simp only [if_neg h1, if_neg h2]
        case hb => rw [strBits_app, hen]; rfl
        case hl => rw [len_app, eof_len]; exact Nat.le_trans (Nat.add_le_add_right hc5 24) (Nat.le_of_ble_eq_true rfl)
      · (rename Fr _ _ _ _ => lF)
        (rename News _ _ _ _ => lN)
        (rename ended = false => hen)
        refine' oct_mid (u := u) (code2 := code) lF lN ?mm ?hb ?hl
        case mm => rfl
        case hb => rw [hen]; exact (List.append_nil _).symm
        case hl => exact Nat.le_trans hc5 (Nat.le_of_ble_eq_true rfl)
    · intro f s' hZ2
      refine wait fun cW hW => ?_
      obtain ⟨h7, tk7, mp7, cells7, rfl, F7, N7, rfl, u2, code2, tc2, rfl, rfl, hb2, hc2⟩ := hZ2
      refine hW ?_
      clear hW cW
      clear F6 N6
      unfold octMap at F7
      have hc7 : code2.length ≤ 100000 := Nat.le_trans hc2 (Nat.le_of_ble_eq_true rfl)
      have hf1 := f8_n63 (-(code2.length : Int))
      have hf2 := f8_1m (-(code2.length : Int))
      have hf3 : code2.length + (Txt.mul (Str.ofString "0") ((-(code2.length : Int)).fmod 8)).length ≤ 16777216 := by
        rw [zero_len, pad_eq]; exact Nat.le_trans (Nat.add_le_add hc7 (Nat.le_of_lt (Nat.mod_lt _ (by decide)))) (Nat.le_of_ble_eq_true rfl)
      (try dsimp only)
      ktr_step
      clear hf1 hf2 hf3
      (rename Fr _ _ _ _ => lF)
      (rename News _ _ _ _ => lN)
      obtain ⟨K, hK⟩ : ∃ K, (code2 ++ Txt.mul (Str.ofString "0") ((-(code2.length : Int)).fmod 8)).length = 8 * K := ⟨(code2.length + (8 - code2.length % 8) % 8) / 8, by rw [len_app, zero_len, pad_eq]; exact (Nat.mul_div_cancel' (Nat.dvd_of_mod_eq_zero (pad8 _))).symm⟩
      have hK5 : K ≤ 5000 := by
        rw [len_app, zero_len, pad_eq] at hK
        exact Nat.le_of_mul_le_mul_left (c := 8) (by rw [← hK]; exact Nat.le_trans (Nat.add_le_add hc2 (Nat.le_of_lt (Nat.mod_lt _ (by decide)))) (Nat.le_of_ble_eq_true rfl)) (by decide)
      have hb3 : strBits (code2 ++ Txt.mul (Str.ofString "0") ((-(code2.length : Int)).fmod 8)) = strBits code ++ ((if ended then eofB else []) ++ List.replicate ((8 - code2.length % 8) % 8) false) := by
        rw [strBits_app, zero_bits, pad_eq, hb2, List.append_assoc]
      have hq : (8 - code2.length % 8) % 8 < 8 := Nat.mod_lt _ (by decide)
      generalize (8 - code2.length % 8) % 8 = q at hb3 hq
      have NE : ∀ cV : Prop, (∀ (oc : Nat) (code3 : Str) (tc3 : Tok), code3.length = 8 * K → strBits code3 = strBits code ++ ((if ended then eofB else []) ++ List.replicate q false) → Fr g' L' _ (oct3Map code3 tc3 oc u2 code2 tc2 e ab D al ended wd tw) → News g' L' _ ((oc, listOf [].toArray 0) :: (D, listOf vr.toArray nr) :: (e, listOf ve.toArray ne) :: (z, listOf vz.toArray nz) :: cells) → @LT.lt Nat _ D oc → @LT.lt Nat _ e oc → @LT.lt Nat _ z oc → AllLt oc cells → cV) → cV := fun cV kV => kV _ _ _ hK hb3 lF (fun p hp => lN p (.tail _ hp)) (And.left (by assumption)) (And.left (And.right (by assumption))) (And.left (And.right (And.right (by assumption)))) (And.right (And.right (And.right (by assumption))))
      clear lF lN
      refine NE _ ?_
      clear NE
      intro oc code3 tc3 hK3 hb4 lF lN hDo heo hzo hco
      clear hK hb3
      refine wpAny_For ?_
      (try dsimp only)
      unfold oct3Map octMap at lF
      ktr_step
      (rename Fr _ _ _ _ => lF)
      (rename News _ _ _ _ => lN)
      (rename IsRange _ _ _ _ _ _ _ _ => rgX)
      rw [hK3] at rgX
      obtain ⟨hsm, hrs⟩ := small8 hK5
      have lF2 : Fr g' L' _ (oct3Map code3 tc3 oc u2 code2 tc2 e ab D al ended wd tw) := lF
      rw [map3_of (M0 := oct3Map code3 tc3 oc u2 code2 tc2 e ab D al ended wd tw) (fun z _ _ _ => rfl)] at lF2
      clear lF
      refine go_range (J := OctK s.gens (strBits code3) oc ((D, listOf vr.toArray nr) :: (e, listOf ve.toArray ne) :: (z, listOf vz.toArray nz) :: cells) (oct3Map code3 tc3 oc u2 code2 tc2 e ab D al ended wd tw)) rfl rgX hsm hrs lF2 lN rfl rfl ?hE2 ⟨rfl, _, _, _, [], 0, rfl, rfl, .nil⟩ ?turn2 ?done2
      case hE2 => passes_own
      case turn2 =>
        clear lF2 lN rgX
        intro i ti m₁ nx hh tk gs it o hiK hZ10 hito F5 N5
        refine wait fun cW hW => ?_
        obtain ⟨rfl, uk, uo, us, vo, no, rfl, rfl, hio⟩ := hZ10
        refine hW ?_
        clear hW cW
        have F6 : Fr g' L' hh (map3 (oct3Map code3 tc3 oc u2 code2 tc2 e ab D al ended wd tw) (some (.int (0 + (i : Int) * 8) ti)) uo us) := fr_map F5 (by
          funext y
          unfold map3
          by_cases h : y = Str.ofString "k"
          · rw [if_pos h, if_pos h]
          · rw [if_neg h, if_neg h, if_neg h])
        clear F5
        have N6 : News g' L' hh ((it, o) :: (oc, listOf vo.toArray no) :: (D, listOf vr.toArray nr) :: (e, listOf ve.toArray ne) :: (z, listOf vz.toArray nz) :: cells) := N5
        clear N5
        have q1 : @Ne Nat oc it := hito _ (.head _)
        have hvo : vo.length ≤ 5000 := by rw [hio.length, octsOf_len]; exact Nat.le_trans (Nat.le_of_lt hiK) hK5
        unfold map3 oct3Map octMap at F6
        (try dsimp only)
        ktr_step
        (rename Fr _ _ _ _ => lF)
        (rename News _ _ _ _ => lN)
        with_unfolding_all
         refine' For_invVF lF ?kf1 ?kf2 ?_
        case kf1 => exact rfl
        case kf2 => exact rfl
        (try dsimp only)
        ktr_step
        (rename Fr _ _ _ _ => lF)
        (rename News _ _ _ _ => lN)
        with_unfolding_all
         refine' KStt.kst_text (σ := Int × Tok) (fun _ => (it, o) :: (oc, listOf vo.toArray no) :: (D, listOf vr.toArray nr) :: (e, listOf ve.toArray ne) :: (z, listOf vz.toArray nz) :: cells) (fun q => [(Str.ofString "octet", .int q.1 q.2)]) (fun _ => True) [] (fun pre q => q.1 = valB (pre.map fun n => n == 49)) (0, _) (by rfl) lF lN trivial ?kk rfl ?turn3 ?done3
        case kk => kst_all
        case turn3 =>
          rintro ⟨oct0, tk0⟩ pre post n t u kh ktk own kEq kOff _ kInv kFr kNews
          rw [kst2v] at kFr
          clear lF lN
          (try dsimp only)
          ktr_enter
          all_goals (rename Fr _ _ _ _ => lF)
          all_goals (rename News _ _ _ _ => lN)
          all_goals dsimp only [InvPostN]
          · refine kst_end (2 * oct0 + 1, _) lF lN (fun p hp => List.mem_append_left _ hp) (fun p hp => List.mem_append_right _ hp) rfl trivial (by kst_all) (fun z hz hz2 _ => ?_) ?_
            · have hz2 := hz2 _ (List.mem_singleton.mpr rfl)
              dsimp only at hz2
              simp only [if_neg hz, if_neg hz2]
            · exact val_one kInv (sign_yes (by assumption))
          · refine kst_end (2 * oct0 + 0, _) lF lN (fun p hp => List.mem_append_left _ hp) (fun p hp => List.mem_append_right _ hp) rfl trivial (by kst_all) (fun z hz hz2 _ => ?_) ?_
            · have hz2 := hz2 _ (List.mem_singleton.mpr rfl)
              dsimp only at hz2
              simp only [if_neg hz, if_neg hz2]
            · exact val_zero kInv (sign_no (by assumption))
        case done3 =>
          rintro ⟨oct0, tk0⟩ u kh ktk _ kInv kFr kNews
          rw [kst2] at kFr
          clear lF lN
          (try dsimp only)
          dsimp only at kInv kFr
          ktr_step
          (rename Fr _ _ _ _ => lF)
          (rename News _ _ _ _ => lN)
          have hxx : oct0 = valB (((strBits code3).drop (8 * i)).take 8) := by rw [kInv, codes_bits, slice_bits hK3 hiK]
          refine oct2_turn lF ?_ lN hito hio hxx rfl
          intro z a b c
          unfold oct3Map octMap
          simp only [if_neg a, if_neg b, if_neg c]
      case done2 =>
        clear lF2 lN rgX
        intro hh tk gs m₁ nx hZ5 F5 N5
        refine wait fun cW hW => ?_
        obtain ⟨rfl, uk, uo, us, vo, no, rfl, rfl, hio⟩ := hZ5
        refine hW ?_
        clear hW cW
        unfold map3 oct3Map octMap at F5
        (try dsimp only)
        ktr_step
        (rename Fr _ _ _ _ => lF)
        (rename News _ _ _ _ => lN)
        (try dsimp only)
        refine leaveK_ lF lN fun kF kN => ?_
        (try dsimp only)
        have hA := aft_of N G' lF (news_sub (new := ((D, listOf vr.toArray nr) :: cells) ++ [(_, { cls := .type "tuple", data := .seq #[.ref oc, .ref e] }), (oc, listOf vo.toArray _), (e, listOf ve.toArray ne)]) lN sub_oct)
        rw [hzz] at hP
        rw [hb4] at hio
        refine hret _ oc e vo _ ve ne _ q K ends _ _ hP hq (by rw [← hb4, strBits_len]; exact hK3) hK5 hil hio hie (aft_nil hA (fun p hp => (N p hp).1) (fun _ h => h) fun p hp hm => ?_)
        refine wait fun cW hW => ?_
        obtain ⟨p2, hp2, e2⟩ := List.mem_map.mp hm
        refine hW ?_
        clear hW cW
        have key : ∀ d : Nat, D < d → AllLt d cells → p.1 = d → False := fun d h1 h2 h3 => by
          rcases List.mem_cons.mp hp2 with h | h
          · rw [h] at e2
            exact absurd (show (D : Nat) = d from e2.trans h3) (Nat.ne_of_lt h1)
          · exact absurd (show (p2.1 : Nat) = d from e2.trans h3) (Nat.ne_of_lt (allLt_mem h2 p2 h))
        simp only [List.mem_cons, List.not_mem_nil, or_false] at hp
        rcases hp with rfl | rfl | rfl
        · exact key _ (And.left (And.right (by assumption))) (And.right (And.right (And.right (And.right (by assumption))))) rfl
        · exact key oc hDo hco rfl
        · exact key e hDe hle rfl
end

example : True := by w_top off; trivial
theorem map_put {n : Str} {v : Value} {m : Str → Option Value} (h : m n = some v) : m = fun y => if y = n then some v else m y := by
  funext z
  by_cases e : z = n
  · rw [if_pos e, e, h]
  · rw [if_neg e]
/-- the law's names between its turns -/
structure LawN (m : Str → Option Value) (sl x O E D : Addr) (H wd : Int) (tH tw td : Tok) (al rv : Bool) (due : Array UInt8) : Prop where
  due : m (Str.ofString "due") = some (.bytes due td)
  octs : m (Str.ofString "octets") = some (.ref O)
  ends : m (Str.ofString "ends") = some (.ref E)
  rows : m (Str.ofString "rows") = some (.ref D)
  dec : m (Str.ofString "decoder") = some (.ref x)
  width : m (Str.ofString "width") = some (.int wd tw)
  alg : m (Str.ofString "aligned") = some (.bool al)
  blk : m (Str.ofString "black") = some (.bool rv)
  head : m (Str.ofString "head") = some (.int H tH)
  scr : m (Str.ofString "script") = some (.ref sl)
/-- the law's map with its names written out -/
def lawM (m : Str → Option Value) (sl x O E D : Addr) (H wd : Int) (tH tw td : Tok) (al rv : Bool) (due : Array UInt8) : Str → Option Value := fun y => if y = Str.ofString "due" then some (.bytes due td) else if y = Str.ofString "octets" then some (.ref O) else if y = Str.ofString "ends" then some (.ref E) else if y = Str.ofString "rows" then some (.ref D) else if y = Str.ofString "decoder" then some (.ref x) else
   if y = Str.ofString "width" then some (.int wd tw) else if y = Str.ofString "aligned" then some (.bool al) else if y = Str.ofString "black" then some (.bool rv) else if y = Str.ofString "head" then some (.int H tH) else if y = Str.ofString "script" then some (.ref sl) else m y
theorem LawN.norm {m : Str → Option Value} {sl x O E D : Addr} {H wd : Int} {tH tw td : Tok} {al rv : Bool} {due : Array UInt8} (N : LawN m sl x O E D H wd tH tw td al rv due) : m = lawM m sl x O E D H wd tH tw td al rv due := by
  funext y
  unfold lawM
  by_cases h1 : y = Str.ofString "due"
  · rw [if_pos h1, h1, N.due]
  rw [if_neg h1]
  by_cases h2 : y = Str.ofString "octets"
  · rw [if_pos h2, h2, N.octs]
  rw [if_neg h2]
  by_cases h3 : y = Str.ofString "ends"
  · rw [if_pos h3, h3, N.ends]
  rw [if_neg h3]
  by_cases h4 : y = Str.ofString "rows"
  · rw [if_pos h4, h4, N.rows]
  rw [if_neg h4]
  by_cases h5 : y = Str.ofString "decoder"
  · rw [if_pos h5, h5, N.dec]
  rw [if_neg h5]
  by_cases h6 : y = Str.ofString "width"
  · rw [if_pos h6, h6, N.width]
  rw [if_neg h6]
  by_cases h7 : y = Str.ofString "aligned"
  · rw [if_pos h7, h7, N.alg]
  rw [if_neg h7]
  by_cases h8 : y = Str.ofString "black"
  · rw [if_pos h8, h8, N.blk]
  rw [if_neg h8]
  by_cases h9 : y = Str.ofString "head"
  · rw [if_pos h9, h9, N.head]
  rw [if_neg h9]
  by_cases h10 : y = Str.ofString "script"
  · rw [if_pos h10, h10, N.scr]
  rw [if_neg h10]
theorem due_step {rv : Bool} {rows : List (List Int)} {ends : List Int} {told : Nat} {b : Array UInt8} {row : List Int} {e n : Int} (hr : rows[told]? = some row) (he : ends[told]? = some e) (hn : e ≤ n) : due rv b (rows.drop told) (ends.drop told) n = due rv (b ++ pk rv row) (rows.drop (told + 1)) (ends.drop (told + 1)) n := by
  obtain ⟨h1, e1⟩ := List.getElem?_eq_some_iff.mp hr
  obtain ⟨h2, e2⟩ := List.getElem?_eq_some_iff.mp he
  rw [List.drop_eq_getElem_cons h1, List.drop_eq_getElem_cons h2, e1, e2]
  show (if e ≤ n then _ else _) = _
  rw [if_pos hn]
theorem due_stop {rv : Bool} {rows : List (List Int)} {ends : List Int} {told : Nat} {b : Array UInt8} {n : Int} (h : rows.length ≤ told ∨ ∃ e, ends[told]? = some e ∧ n < e) : due rv b (rows.drop told) (ends.drop told) n = b := by
  rcases h with h | ⟨e, he, hn⟩
  · rw [List.drop_eq_nil_of_le h]; rfl
  · obtain ⟨h2, e2⟩ := List.getElem?_eq_some_iff.mp he
    rw [List.drop_eq_getElem_cons h2, e2]
    cases rows.drop told with
    | nil => rfl
    | cons r rs =>
      show (if e ≤ n then _ else _) = _
      rw [if_neg (Int.not_le.2 (by assumption))]
/-- what has been told by a place -/
def Told (rv : Bool) (due0 : Array UInt8) (rows : List (List Int)) (ends : List Int) (n : Int) (told : Nat) (b : Array UInt8) : Prop :=
  told ≤ rows.length ∧ b.size ≤ due0.size + 2 * told ∧ ∀ n', n ≤ n' → due rv due0 rows ends n' = due rv b (rows.drop told) (ends.drop told) n'
theorem Told.zero (rv : Bool) (due0 : Array UInt8) (rows : List (List Int)) (ends : List Int) (n : Int) : Told rv due0 rows ends n 0 due0 := ⟨Nat.zero_le _, Nat.le_refl _, fun _ _ => rfl⟩
theorem Told.later {rv : Bool} {due0 b : Array UInt8} {rows : List (List Int)} {ends : List Int} {n n2 : Int} {told : Nat} (h : Told rv due0 rows ends n told b) (h2 : n ≤ n2) : Told rv due0 rows ends n2 told b := ⟨h.1, h.2.1, fun n' hn => h.2.2 n' (Int.le_trans h2 hn)⟩
theorem Told.step {rv : Bool} {due0 b : Array UInt8} {rows : List (List Int)} {ends row : List Int} {n e wd : Int} {told : Nat} (h : Told rv due0 rows ends n told b) (hr : rows[told]? = some row) (he : ends[told]? = some e) (hn : e ≤ n) (hrow : RowOk wd row) (hw : wd ≤ 12) : Told rv due0 rows ends n (told + 1) (b ++ pk rv row) := by
  have hps := pk_size rv hrow hw
  refine ⟨(List.getElem?_eq_some_iff.mp hr).1, by rw [Array.size_append]; exact (show b.size + (pk rv row).size ≤ due0.size + 2 * told + 2 from Nat.add_le_add h.2.1 hps), fun n' hn' => ?_⟩
  rw [h.2.2 n' hn', due_step hr he (Int.le_trans hn hn')]
theorem Told.stop {rv : Bool} {due0 b : Array UInt8} {rows : List (List Int)} {ends : List Int} {n : Int} {told : Nat} (h : Told rv due0 rows ends n told b) (hs : rows.length ≤ told ∨ ∃ e, ends[told]? = some e ∧ n < e) : due rv due0 rows ends n = b := by
  rw [h.2.2 n (Int.le_refl _), due_stop hs]
/-- the decoder's cells, while it runs or behind the end's mark -/
inductive DecOn (P : Params) (x dx : Nat) (wd : Int) (al rv : Bool) (M : MS) (live fin : Prop) (rest : List (Addr × Obj)) : List (Addr × Obj) → Prop where
  | on {mt : Nat} {dc : List (Addr × Obj)} : live → MSAt P x dx wd al rv mt M dc → OwnOff rest (mt :: dc.map (·.1)) → DecOn P x dx wd al rv M live fin rest ((mt, methodObj (.ref (Kd.fn (MS.k M))) (.ref x)) :: dc)
  | off {p0 : Int} {tps : Tok} {acc st : Value} {n1 n2 : Option Value} {dc : List (Addr × Obj)} : fin → DecAt P x dx wd al rv (.int p0 tps) acc st n1 n2 M.S dc → OptV n1 M.n1 → OptV n2 M.n2 → OwnOff rest (dc.map (·.1)) → DecOn P x dx wd al rv M live fin rest dc
/-- what stands between the octets of a picture -/
inductive LawK (P : Params) (al rv : Bool) (wd : Int) (sl x dx O E D : Addr) (H : Int) (tH tw : Tok) (due0 : Array UInt8) (rows : List (List Int)) (ends : List Int) (total : List Bool) (tn : Int) (rest : List (Addr × Obj)) (k : Nat) (m₁ : Str → Option Value) (nx : List (Addr × Obj)) (gs : Array GenState) : Prop where
  | intro : AllBare gs → ∀ (td tt ttn : Tok) (b : Array UInt8) (told : Nat) (M : MS) (dcs : List (Addr × Obj)), LawN m₁ sl x O E D H wd tH tw td al rv b → m₁ (Str.ofString "told") = some (.int told tt) → m₁ (Str.ofString "turn") = some (.int tn ttn) → nx = dcs ++ rest → Told rv due0 rows ends ((8 * k : Nat) : Int) told b → due rv due0 rows ends ((8 * k : Nat) : Int) = b → M.S.buf = b → ((M.n1 = none → M.n2 = none)) → DecOn P x dx wd al rv M (All P wd al rv (AskD rv due0 rows ends) false M (total.drop (8 * k)) (8 * k)) (total.length ≤ 8 * k) rest dcs → LawK P al rv wd sl x dx O E D H tH tw due0 rows ends total tn rest k m₁ nx gs
/-- the decoder's state at a picture's begin -/
noncomputable def ms0 (P : Params) (wd : Int) (buf : Array UInt8) (n1 n2 : Option Int) : MS := ⟨.md, modeT P, { cur := List.replicate wd.toNat 1, rf := List.replicate wd.toNat 1, cp := -1, col := 1, y := 0, buf := buf }, n1, n2⟩
inductive LawT1 (P : Params) (al rv : Bool) (wd : Int) (sl x dx : Addr) (H : Int) (tH tw : Tok) (i : Nat) (m₁ : Str → Option Value) (nx : List (Addr × Obj)) : Prop where
  | intro : ∀ (O E D : Addr) (td : Tok) (b : Array UInt8) (vo ve vr : List Value) (no ne nr : Nat) (rc dc : List (Addr × Obj)) (rows : List (List Int)) (ends : List Int) (bits : List Bool) (q K ct : Nat) (ended : Bool) (mt : Nat) (j1 j2 : Option Int), LawN m₁ sl x O E D H wd tH tw td al rv b → nx = ((mt, methodObj (.ref 431) (.ref x)) :: dc) ++ ((O, listOf vo.toArray no) :: (E, listOf ve.toArray ne) :: (D, listOf vr.toArray nr) :: rc) → MSAt P x dx wd al rv mt (ms0 P wd b j1 j2) dc → (j1 = none → j2 = none) → OwnOff ((O, listOf vo.toArray no) :: (E, listOf ve.toArray ne) :: (D, listOf vr.toArray nr) :: rc) (mt :: dc.map (·.1)) → b.size ≤ 6 * i → IntsAre vo ((octsOf (bits ++ ((if ended then eofB else []) ++ List.replicate q false)) K).take ct) → IntsAre ve ends → RowsAt rc vr rows → (∀ r ∈ rows, RowOk wd r) → rows.length ≤ 3 → ends.length = rows.length → PicR P al rows (List.replicate wd.toNat 0) 0 bits ends → q < 8 → (bits ++ ((if ended then eofB else []) ++ List.replicate q false)).length = 8 * K → K ≤ 5000 → LawT1 P al rv wd sl x dx H tH tw i m₁ nx
/-- what stands between the law's turns -/
def LawT (P : Params) (al rv : Bool) (wd : Int) (sl x dx : Addr) (H : Int) (tH tw : Tok) (i : Nat) (m₁ : Str → Option Value) (nx : List (Addr × Obj)) (gs : Array GenState) : Prop :=
  AllBare gs ∧ (2 ≤ i ∨ LawT1 P al rv wd sl x dx H tH tw i m₁ nx)
theorem inv_zeros (n : Nat) : inv (List.replicate n 0) = List.replicate n 1 := by
  unfold inv
  rw [List.map_replicate]; rfl
theorem rowOk_zero {wd : Int} (h : 1 ≤ wd) : RowOk wd (List.replicate wd.toNat 0) := ⟨by rw [List.length_replicate]; exact Int.toNat_of_nonneg (Int.le_trans (by decide) h), fun b hb => .inl (List.eq_of_mem_replicate hb)⟩
theorem at_ms0 {P : Params} {wd : Int} {b : Array UInt8} {j1 j2 : Option Int} (h : j1 = none → j2 = none) : AtRow P wd (List.replicate wd.toNat 0) b (ms0 P wd b j1 j2) := ⟨rfl, rfl, ⟨0, by rw [inv_zeros]; rfl⟩, h⟩
theorem law_off {O mt : Nat} {oO om oD' oe : Obj} {D' e D : Addr} {a1 a2 : Addr × Obj} {oD : Obj} {rc dc : List (Addr × Obj)} (h1 : @LT.lt Nat _ mt O) (h2 : AllLt O (rc ++ dc)) (h6 : ∀ p ∈ [a1, a2, (e, oe)], ∀ q ∈ (D, oD) :: (mt, om) :: (rc ++ dc), p.1 ≠ q.1) (h5 : ∀ p ∈ (D, oD) :: rc, ∀ q ∈ (D', oD') :: (mt, om) :: dc, p.1 ≠ q.1) :
   OwnOff ((O, oO) :: (e, oe) :: (D, oD) :: rc) (mt :: dc.map (·.1)) := fun p hp b hb => by
  obtain ⟨q, hq, rfl⟩ : ∃ q ∈ (mt, om) :: dc, q.1 = b := by
    rcases List.mem_cons.mp hb with h | h
    · exact ⟨_, .head _, h.symm⟩
    · obtain ⟨q, hq, e⟩ := List.mem_map.mp h
      exact ⟨q, .tail _ hq, e⟩
  rcases List.mem_cons.mp hp with rfl | hp
  · refine Nat.ne_of_gt ?_
    rcases List.mem_cons.mp hq with rfl | hq
    · exact h1
    · exact allLt_mem h2 q (List.mem_append_right _ hq)
  · rcases List.mem_cons.mp hp with rfl | hp
    · refine h6 _ (.tail _ (.tail _ (.head _))) q ?_
      rcases List.mem_cons.mp hq with h | hq
      · exact .tail _ (h ▸ .head _)
      · exact .tail _ (.tail _ (List.mem_append_right _ hq))
    · exact h5 p hp q (.tail _ hq)
theorem law_sub {a b c d f g : Addr × Obj} {rc dc : List (Addr × Obj)} : ∀ p ∈ (g :: dc) ++ (a :: d :: f :: rc), p ∈ a :: b :: c :: d :: f :: g :: (rc ++ dc) := fun p hp => by
  simp only [List.cons_append, List.mem_cons, List.mem_append] at hp ⊢
  rcases hp with h | h | h | h | h | h
  · exact .inr (.inr (.inr (.inr (.inr (.inl h)))))
  · exact .inr (.inr (.inr (.inr (.inr (.inr (.inr h))))))
  · exact .inl h
  · exact .inr (.inr (.inr (.inl h)))
  · exact .inr (.inr (.inr (.inr (.inl h))))
  · exact .inr (.inr (.inr (.inr (.inr (.inr (.inl h))))))
theorem perm1 {i a b c d e x1 x2 x3 : Addr × Obj} {rc : List (Addr × Obj)} : ∀ p ∈ (a :: [b, c, d, e]) ++ (i :: x1 :: x2 :: x3 :: rc), p ∈ i :: a :: b :: c :: d :: e :: x1 :: x2 :: x3 :: rc := fun p hp => by
  simp only [List.cons_append, List.nil_append, List.mem_cons] at hp ⊢
  rcases hp with h | h | h | h | h | h | h | h | h | h
  · exact .inr (.inl h)
  · exact .inr (.inr (.inl h))
  · exact .inr (.inr (.inr (.inl h)))
  · exact .inr (.inr (.inr (.inr (.inl h))))
  · exact .inr (.inr (.inr (.inr (.inr (.inl h)))))
  · exact .inl h
  · exact .inr (.inr (.inr (.inr (.inr (.inr (.inl h))))))
  · exact .inr (.inr (.inr (.inr (.inr (.inr (.inr (.inl h)))))))
  · exact .inr (.inr (.inr (.inr (.inr (.inr (.inr (.inr (.inl h))))))))
  · exact .inr (.inr (.inr (.inr (.inr (.inr (.inr (.inr (.inr h))))))))
theorem perm2 {j i a b c d e x1 x2 x3 : Addr × Obj} {rc : List (Addr × Obj)} : ∀ p ∈ j :: i :: x1 :: x2 :: x3 :: a :: b :: c :: d :: e :: rc, p ∈ j :: ((a :: [b, c, d, e]) ++ (i :: x1 :: x2 :: x3 :: rc)) := fun p hp => by
  simp only [List.cons_append, List.nil_append, List.mem_cons] at hp ⊢
  rcases hp with h | h | h | h | h | h | h | h | h | h | h
  · exact .inl h
  · exact .inr (.inr (.inr (.inr (.inr (.inr (.inl h))))))
  · exact .inr (.inr (.inr (.inr (.inr (.inr (.inr (.inl h)))))))
  · exact .inr (.inr (.inr (.inr (.inr (.inr (.inr (.inr (.inl h))))))))
  · exact .inr (.inr (.inr (.inr (.inr (.inr (.inr (.inr (.inr (.inl h)))))))))
  · exact .inr (.inl h)
  · exact .inr (.inr (.inl h))
  · exact .inr (.inr (.inr (.inl h)))
  · exact .inr (.inr (.inr (.inr (.inl h))))
  · exact .inr (.inr (.inr (.inr (.inr (.inl h)))))
  · exact .inr (.inr (.inr (.inr (.inr (.inr (.inr (.inr (.inr (.inr h)))))))))
theorem own_it {it : Addr} {o om : Obj} {mt : Addr} {rest dc : List (Addr × Obj)} (h : OwnOff rest (mt :: dc.map (·.1))) (hi : ∀ p ∈ ((mt, om) :: dc) ++ rest, p.1 ≠ it) : OwnOff ((it, o) :: rest) (mt :: dc.map (·.1)) := fun p hp b hb => by
  rcases List.mem_cons.mp hp with rfl | hp
  · obtain ⟨q, hq, rfl⟩ : ∃ q ∈ (mt, om) :: dc, q.1 = b := by
      rcases List.mem_cons.mp hb with h | h
      · exact ⟨_, .head _, h.symm⟩
      · obtain ⟨q, hq, e⟩ := List.mem_map.mp h
        exact ⟨q, .tail _ hq, e⟩
    exact Ne.symm (hi q (List.mem_append_left _ hq))
  · exact h p hp b hb
/-- a place between two stretches of the walk, the generators grown -/
inductive MidG (g : Heap) (L : Addr) (s : Shared) (P : Flow → (Str → Option Value) → List (Addr × Obj) → Array GenState → Prop) (f : Flow) (s₂ : Shared) : Prop where
  | intro : ∀ kh tk gs mp cells, s₂ = { s with heap := kh, toks := tk, gens := gs } → Fr g L kh mp → News g L kh cells → P f mp cells gs → MidG g L s P f s₂
theorem MidG.mk {g : Heap} {L : Addr} {s : Shared} {P : Flow → (Str → Option Value) → List (Addr × Obj) → Array GenState → Prop} {f : Flow} {kh : Heap} {tk : Nat} {gs : Array GenState} {mp : Str → Option Value} {cells : List (Addr × Obj)} (F : Fr g L kh mp) (N : News g L kh cells) (h : P f mp cells gs) : MidG g L s P f { s with heap := kh, toks := tk, gens := gs } := ⟨kh, tk, gs, mp, cells, rfl, F, N, h⟩
/-- behind an octet -/
inductive LawFed (P : Params) (al rv : Bool) (wd : Int) (sl x dx O E D : Addr) (H : Int) (tH tw td : Tok) (b due1 : Array UInt8) (rows : List (List Int)) (ends : List Int) (total : List Bool) (tn kk told : Int) (rest : List (Addr × Obj)) (k : Nat) (f : Flow) (mp : Str → Option Value) (cells : List (Addr × Obj)) (gs : Array GenState) : Prop where
  | intro : f = .next → AllBare gs → LawN mp sl x O E D H wd tH tw td al rv due1 → (∃ t, mp (Str.ofString "told") = some (.int told t)) → (∃ t, mp (Str.ofString "turn") = some (.int tn t)) → (∃ t, mp (Str.ofString "k") = some (.int kk t)) → ∀ (M : MS) (dcs : List (Addr × Obj)), cells = dcs ++ rest → AskD rv b rows ends (8 * k) M → DecOn P x dx wd al rv M (All P wd al rv (AskD rv b rows ends) false M (total.drop (8 * k)) (8 * k)) (total.length ≤ 8 * k) rest dcs → LawFed P al rv wd sl x dx O E D H tH tw td b due1 rows ends total tn kk told rest k f mp cells gs
theorem perm3 {j i a b c d e x1 x2 x3 : Addr × Obj} {rc : List (Addr × Obj)} : ∀ p ∈ (a :: [b, c, d, e]) ++ (j :: i :: x1 :: x2 :: x3 :: rc), p ∈ j :: i :: x1 :: x2 :: x3 :: a :: b :: c :: d :: e :: rc := fun p hp => by
  simp only [List.cons_append, List.nil_append, List.mem_cons] at hp ⊢
  rcases hp with h | h | h | h | h | h | h | h | h | h | h
  · exact .inr (.inr (.inr (.inr (.inr (.inl h)))))
  · exact .inr (.inr (.inr (.inr (.inr (.inr (.inl h))))))
  · exact .inr (.inr (.inr (.inr (.inr (.inr (.inr (.inl h)))))))
  · exact .inr (.inr (.inr (.inr (.inr (.inr (.inr (.inr (.inl h))))))))
  · exact .inr (.inr (.inr (.inr (.inr (.inr (.inr (.inr (.inr (.inl h)))))))))
  · exact .inl h
  · exact .inr (.inl h)
  · exact .inr (.inr (.inl h))
  · exact .inr (.inr (.inr (.inl h)))
  · exact .inr (.inr (.inr (.inr (.inl h))))
  · exact .inr (.inr (.inr (.inr (.inr (.inr (.inr (.inr (.inr (.inr h)))))))))
theorem octBits_len (b : UInt8) : (octBits b).length = 8 := by simp [octBits]
theorem feed_runs {P : Params} {wd : Int} {al rv : Bool} {D : Nat → MS → Prop} {total : List Bool} {K k0 : Nat} {M : MS} {v : Int} (hlen : total.length = 8 * K) (hk : k0 < K) (hv : v = valB ((total.drop (8 * k0)).take 8)) (hall : All P wd al rv D false M (total.drop (8 * k0)) (8 * k0)) :
   Runs P wd al rv (PostA P wd al rv D (total.drop (8 * (k0 + 1))) (8 * (k0 + 1))) (PostEA D (total.drop (8 * (k0 + 1))) (8 * (k0 + 1))) M (octBits (octOf v)) := by
  subst hv
  rw [← octsOf_bits hlen hk] at hall
  exact oct_runs (Nat.mul_mod_right 8 _) (by rw [List.length_drop, hlen, ← Nat.mul_sub]; exact Nat.mul_mod_right 8 _) _ M _ (by rw [octBits_len]; rfl) (Nat.le_refl _) hall
theorem bare_push {gs : Array GenState} {a : GenState} (h : AllBare gs) (ha : a.bare = true) : AllBare (gs.push a) := by
  intro x hx
  rcases Array.mem_push.mp hx with h1 | h1
  · exact h x h1
  · exact h1 ▸ ha
/-- behind the rows that are due -/
inductive LawTold (al rv : Bool) (wd : Int) (sl x O E D : Addr) (H : Int) (tH tw : Tok) (b : Array UInt8) (rows : List (List Int)) (ends : List Int) (tn : Int) (n : Int) (gs0 : Array GenState) (cells0 : List (Addr × Obj)) (f : Flow) (mp : Str → Option Value) (cells : List (Addr × Obj)) (gs : Array GenState) : Prop where
  | intro : f = .next → gs = gs0 → cells = cells0 → ∀ (td tt ttn : Tok) (told : Nat) (due1 : Array UInt8), LawN mp sl x O E D H wd tH tw td al rv due1 → mp (Str.ofString "told") = some (.int told tt) → mp (Str.ofString "turn") = some (.int tn ttn) → Told rv b rows ends n told due1 → due rv b rows ends n = due1 → LawTold al rv wd sl x O E D H tH tw b rows ends tn n gs0 cells0 f mp cells gs
theorem perm4 {j i x1 x2 x3 : Addr × Obj} {rc dcs : List (Addr × Obj)} : ∀ p ∈ j :: i :: x1 :: x2 :: x3 :: (rc ++ dcs), p ∈ dcs ++ (j :: i :: x1 :: x2 :: x3 :: rc) := fun p hp => by
  simp only [List.mem_cons, List.mem_append] at hp ⊢
  rcases hp with h | h | h | h | h | h | h
  · exact .inr (.inl h)
  · exact .inr (.inr (.inl h))
  · exact .inr (.inr (.inr (.inl h)))
  · exact .inr (.inr (.inr (.inr (.inl h))))
  · exact .inr (.inr (.inr (.inr (.inr (.inl h)))))
  · exact .inr (.inr (.inr (.inr (.inr (.inr h)))))
  · exact .inl h
theorem perm5 {j i x1 x2 x3 : Addr × Obj} {rc dcs : List (Addr × Obj)} : ∀ p ∈ dcs ++ (j :: i :: x1 :: x2 :: x3 :: rc), p ∈ j :: i :: x1 :: x2 :: x3 :: (rc ++ dcs) := fun p hp => by
  simp only [List.mem_cons, List.mem_append] at hp ⊢
  rcases hp with h | h | h | h | h | h | h
  · exact .inr (.inr (.inr (.inr (.inr (.inr h)))))
  · exact .inl h
  · exact .inr (.inl h)
  · exact .inr (.inr (.inl h))
  · exact .inr (.inr (.inr (.inl h)))
  · exact .inr (.inr (.inr (.inr (.inl h))))
  · exact .inr (.inr (.inr (.inr (.inr (.inl h)))))
theorem DecOn.dec {P : Params} {x dx : Nat} {wd : Int} {al rv : Bool} {M : MS} {live fin : Prop} {rest dcs : List (Addr × Obj)} (h : DecOn P x dx wd al rv M live fin rest dcs) : ∃ p0 tps acc st n1 n2 dc, DecAt P x dx wd al rv (.int p0 tps) acc st n1 n2 M.S dc ∧ OptV n1 M.n1 ∧ OptV n2 M.n2 ∧ ∀ p ∈ dc, p ∈ dcs := by
  cases h with
  | on hl hM ho =>
    obtain ⟨p0, tps, st, n1, n2, f, hD, hT, hn1, hn2, hof⟩ := hM
    exact ⟨p0, tps, _, st, n1, n2, _, hD, hn1, hn2, fun p hp => .tail _ hp⟩
  | off hf hD ho1 ho2 ho => exact ⟨_, _, _, _, _, _, _, hD, ho1, ho2, fun p hp => hp⟩
theorem get_at {ends : List Int} {k : Nat} (h : k < ends.length) : ends[k]? = some (ends.getD k 0) := by
  rw [List.getD_eq_getElem?_getD, List.getElem?_eq_getElem h]; rfl

local macro_rules | `(tactic| ktr_enter) => `(tactic| ((try k_fold); repeat' (first | (k_unfold; (try dsimp only)) | ((fail_if_success (first | tb_start | with_reducible first | show RaiseQ _ _ _ _ _ | show wpAny _ _ (leaving _ _) _ _ _ | show wpAny _ _ (call (Value.ref _) _) _ _ _ | show LeaveS0 _ _ _ _ _ _ _ _ | show wpAny _ _ (exec (Stmt.For _ _ _ _ _) _) _ _ _ | show wpAny _ _ (exec (Stmt.Try _ _ _ _ _) _) _ _ _ | show wpAny _ _ (subscriptTail _ _ (Value.ref _) (Value.int _ _)) _ _ _)); first | keq_hits | kct_strs | walk1 | (dsimp only; walk1))); all_goals (try (dsimp only; k_unfold; (try dsimp only)))))

example : True := by w_top off; trivial
noncomputable def turnB : List Stmt := by
  refine (?f : (b : List Stmt) → (match Bq_law.getD 6 noSt with | .For _ _ b _ _ => b | _ => []) = b → List Stmt) ?b ?h
  case f => exact fun b _ => b
  case h => conv => lhs; whnf
noncomputable def kB : List Stmt := by
  refine (?f : (b : List Stmt) → (match turnB.getD 2 noSt with | .For _ _ b _ _ => b | _ => []) = b → List Stmt) ?b ?h
  case f => exact fun b _ => b
  case h => conv => lhs; whnf
noncomputable def ifB : List Stmt := by
  refine (?f : (b : List Stmt) → turnB.drop 3 = b → List Stmt) ?b ?h
  case f => exact fun b _ => b
  case h => conv => lhs; whnf
noncomputable abbrev lawE (L fa cdv : Nat) : Env := envOf (Str.ofString "law") Cq_law L fa (.ref cdv)
/-- behind the law's first statement -/
def LawA (sl : Addr) (f : Flow) (mp : Str → Option Value) (cs : List (Addr × Obj)) : Prop :=
  f = .next ∧ ∃ (H : Int) (tH : Tok), 0 ≤ H ∧ H < 100000 ∧ mp = (fun y => if y = Str.ofString "head" then some (.int H tH) else List.lookup y [(Str.ofString "script", .ref sl)]) ∧ cs = []
theorem lawA_mid {g h : Heap} {L sl : Addr} {s : Shared} {tk : Nat} {mm : Str → Option Value} {H : Int} {tH : Tok} (F : Fr g L h mm) (hmm : mm = (fun y => if y = Str.ofString "head" then some (.int H tH) else List.lookup y [(Str.ofString "script", .ref sl)])) (h0 : 0 ≤ H) (h1 : H < 100000) :
   Mid g L s (LawA sl) .next { s with heap := h, toks := tk } := ⟨h, tk, mm, [], rfl, F, fun p hp => (nomatch hp), rfl, H, tH, h0, h1, hmm, rfl⟩
/-- the law's frame, its first names -/
def lawM1 (H : Int) (tH tw : Tok) (wd : Int) (al rv : Bool) (sl : Addr) : Str → Option Value := fun y => if y = Str.ofString "width" then some (.int wd tw) else if y = Str.ofString "aligned" then some (.bool al) else if y = Str.ofString "black" then some (.bool rv) else if y = Str.ofString "head" then some (.int H tH) else List.lookup y [(Str.ofString "script", .ref sl)]
theorem sub_c {a b d : Addr × Obj} {rc dc : List (Addr × Obj)} : ∀ p ∈ a :: d :: (rc ++ dc), p ∈ (a :: rc) ++ (b :: d :: dc) := fun p hp => by
  simp only [List.cons_append, List.mem_cons, List.mem_append] at hp ⊢
  rcases hp with h | h | h | h
  · exact .inl h
  · exact .inr (.inr (.inr (.inl h)))
  · exact .inr (.inl h)
  · exact .inr (.inr (.inr (.inr h)))
def lawM2 (x : Addr) (due : Array UInt8) (td : Tok) (H : Int) (tH tw : Tok) (wd : Int) (al rv : Bool) (sl : Addr) : Str → Option Value := fun y => if y = Str.ofString "decoder" then some (.ref x) else if y = Str.ofString "due" then some (.bytes due td) else lawM1 H tH tw wd al rv sl y
/-- behind the decoder's making -/
inductive LawB (P : Params) (H : Int) (tH tw : Tok) (wd : Int) (al rv : Bool) (sl : Addr) (f : Flow) (mp : Str → Option Value) (cs : List (Addr × Obj)) : Prop where
  | intro : f = .next → ∀ (x dx mt : Nat) (td : Tok) (cells : List (Addr × Obj)), mp = lawM2 x #[] td H tH tw wd al rv sl → cs = (mt, methodObj (.ref 431) (.ref x)) :: cells → x ≠ dx → MSAt P x dx wd al rv mt (ms0 P wd #[] none none) cells → LawB P H tH tw wd al rv sl f mp cs
theorem DecOn.drop {P : Params} {x dx : Nat} {wd : Int} {al rv : Bool} {M : MS} {live fin : Prop} {i : Addr × Obj} {rest dcs : List (Addr × Obj)} (h : DecOn P x dx wd al rv M live fin (i :: rest) dcs) : DecOn P x dx wd al rv M live fin rest dcs ∧ ∀ p ∈ dcs, p.1 ≠ i.1 := by
  cases h with
  | on hl hM ho => exact ⟨.on hl hM (fun p hp => ho p (.tail _ hp)), fun p hp => Ne.symm (ho _ (.head _) p.1 (List.mem_map_of_mem (f := (·.1)) hp))⟩
  | off hf hD ho1 ho2 ho => exact ⟨.off hf hD ho1 ho2 (fun p hp => ho p (.tail _ hp)), fun p hp => Ne.symm (ho _ (.head _) p.1 (List.mem_map_of_mem (f := (·.1)) hp))⟩
theorem perm6 {j i x1 x2 x3 : Addr × Obj} {rc dcs : List (Addr × Obj)} : ∀ p ∈ j :: ([] ++ (dcs ++ (i :: x1 :: x2 :: x3 :: rc))), p ∈ j :: i :: x1 :: x2 :: x3 :: (rc ++ dcs) := fun p hp => by
  simp only [List.nil_append, List.mem_cons, List.mem_append] at hp ⊢
  rcases hp with h | h | h | h | h | h | h
  · exact .inl h
  · exact .inr (.inr (.inr (.inr (.inr (.inr h)))))
  · exact .inr (.inl h)
  · exact .inr (.inr (.inl h))
  · exact .inr (.inr (.inr (.inl h)))
  · exact .inr (.inr (.inr (.inr (.inl h))))
  · exact .inr (.inr (.inr (.inr (.inr (.inl h)))))
theorem off_app {it : Addr} {dcs dcs2 rest : List (Addr × Obj)} (h1 : ∀ p ∈ dcs, p.1 ≠ it) (h2 : ∀ p ∈ dcs2 ++ rest, p.1 ≠ it) : ∀ p ∈ dcs ++ rest, p.1 ≠ it := fun p hp => by
  rcases List.mem_append.mp hp with h | h
  · exact h1 p h
  · exact h2 p (List.mem_append_right _ h)
set_option maxHeartbeats 5000000 in
theorem law_k {w : World} {mean : ExcName → Option Value} {mg mb : Str → Option Value} {g : Heap} {L fa cdv : Nat} {s : Shared} {Q : Flow → Shared → Prop} {E' : Value → Shared → Prop}
 (K0 : Below callerA g [] g) (KX : (hd.heap_39 w.params).In g) (T : Top hd.view_39 LS mean mg mb g)
 (hE' : PassesOwn (model PG w) (callerA.deeper (lawE L fa cdv)) (lawE L fa cdv) E')
 {al rv : Bool} {wd : Int} {sl x dx O E D : Nat} {H : Int} {tH tw : Tok} {b : Array UInt8} {rows : List (List Int)} {ends : List Int} {total : List Bool} {i it : Nat} {o : Obj} {vo ve vr : List Value} {no ne nr nO K : Nat} {rc : List (Addr × Obj)} {os : List Int}
 (hi2 : i < 2) (hwd0 : 1 ≤ wd) (hwd1 : wd ≤ 12) (hxd : x ≠ dx) (hbs : b.size ≤ 6 * i) (hvo : IntsAre vo os) (hve : IntsAre ve ends) (hra : RowsAt rc vr rows) (hro : ∀ r ∈ rows, RowOk wd r) (hr3 : rows.length ≤ 3) (hel : ends.length = rows.length) (hlen : total.length = 8 * K) (hK : K ≤ 5000)
 (hvn : vo.length = nO) (hvl : nO ≤ K) (hol : os.length = nO) (hov : ∀ k < nO, os.getD k 0 = valB ((total.drop (8 * k)).take 8))
 {k0 : Nat} {tk0 : Tok} {m₂ : Str → Option Value} {nx : List (Addr × Obj)} {hh : Heap} {tk : Nat} {gs2 : Array GenState} {it2 : Nat} {o2 : Obj} (hk : k0 < nO)
 (hJ : LawK w.params al rv wd sl x dx O E D H tH tw b rows ends total (0 + (i : Int) * 1) ((it, o) :: (O, listOf vo.toArray no) :: (E, listOf ve.toArray ne) :: (D, listOf vr.toArray nr) :: rc) k0 m₂ nx gs2) (hito2 : ∀ p ∈ nx, p.1 ≠ it2)
 (F5 : Fr g L hh (fun y => if y = Str.ofString "k" then some (.int (0 + (k0 : Int) * 1) tk0) else m₂ y)) (N5 : News g L hh ((it2, o2) :: nx)) :
 wpAny (model PG w) (callerA.deeper (lawE L fa cdv)) (execs kB (lawE L fa cdv)) (GoPost g L it2 o2 [] (LawK w.params al rv wd sl x dx O E D H tH tw b rows ends total (0 + (i : Int) * 1) ((it, o) :: (O, listOf vo.toArray no) :: (E, listOf ve.toArray ne) :: (D, listOf vr.toArray nr) :: rc)) (k0 + 1) s Q) E' { s with heap := hh, toks := tk, gens := gs2 } := by
  delta kB lawE Cq_law at *
  (have hz : (PySem.Challenge.rw_ao0017_01 : OpenLaw) = PySem.Challenge.rw_ao0017_01 := rfl)
  revert KX hz
  k_fill
  intro KX hz
  clear hz
  have hvl5 : nO ≤ 5000 := Nat.le_trans hvl hK
  refine wait fun cW hW => ?_
  obtain ⟨hgs2, td1, tt1, ttn1, due1, told, M, dcs, hN1, htold, hturn, rfl, hTold, hdue, hbuf, hn12, hDec⟩ := hJ
  refine hW ?_
  clear hW cW
  cases hDec with
  | off hfin _ _ _ _ => exact absurd (hlen ▸ hfin) (Nat.not_le.2 (Nat.mul_lt_mul_of_pos_left (Nat.lt_of_lt_of_le hk hvl) (by decide)))
  | @on mt1 dc1 hall hM hoff =>
  refine wait fun cW hW => ?_
  obtain ⟨p0, tps, st, n1, n2, f, hD, hT, hn1, hn2, hof⟩ := id hM
  refine hW ?_
  clear hW cW
  refine wait fun cW hW => ?_
  obtain ⟨c, r, n, nc, nr', k, vc, vr', twd, ty, tcp, tcol, tb, rfl, hxc, hdc, hxr, hdr, hcr, hic, hir⟩ := id hD
  refine hW ?_
  clear hW cW
  have N6 := news_sub N5 perm2
  have F6 : Fr g L hh _ := F5
  clear N5 F5
  rw [hN1.norm, map_put htold, map_put hturn] at F6
  unfold lawM at F6
  (try dsimp only)
  walk1
  (try dsimp only)
  refine cut (Q₁ := MidG g L s (LawFed w.params al rv wd sl x dx O E D H tH tw td1 b due1 rows ends total (0 + (i : Int) * 1) (0 + (k0 : Int) * 1) told ((it2, o2) :: (it, o) :: (O, listOf vo.toArray no) :: (E, listOf ve.toArray ne) :: (D, listOf vr.toArray nr) :: rc) (k0 + 1))) ?_ ?_
  · skip
    -- [[F
    ktr_step
    (rename Fr _ _ _ _ => lF)
    (rename News _ _ _ _ => lN)
    have ekv : (0 + (k0 : Int) * 1).toNat = k0 := by rw [Int.zero_add, Int.mul_one]; rfl
    rw [ekv] at lN
    have hvv := hov k0 hk
    have hvr := octsOf_in hlen (os.getD k0 0) (List.mem_map.mpr ⟨k0, List.mem_range.mpr (Nat.lt_of_lt_of_le hk hvl), hvv.symm⟩)
    generalize os.getD k0 0 = v at lN hvv hvr
    refine' KBa.make_K lF lN ?kbah ?kbal ?kbai ?kbar ?kban ?_
    case kbah => rfl
    case kbal => kba_isList
    case kbai => exact .cons v _ .nil
    case kbar => exact fun n hn => List.mem_singleton.mp hn ▸ hvr
    case kban => (show 1 ≤ 16777216); decide
    intro _ _ _ F8 N8 _
    clear lF lN
    (try dsimp only)
    ktr_step
    (rename Fr _ _ _ _ => lF)
    (rename News _ _ _ _ => lN)
    obtain ⟨mm3, lF3, hLN3, hto3, htu3, hk3⟩ : ∃ mm3 : Str → Option Value, Fr g L _ mm3 ∧ LawN mm3 sl x O E D H wd tH tw td1 al rv due1 ∧ (∃ t, mm3 (Str.ofString "told") = some (.int told t)) ∧ (∃ t, mm3 (Str.ofString "turn") = some (.int (0 + (i : Int) * 1) t)) ∧ (∃ t, mm3 (Str.ofString "k") = some (.int (0 + (k0 : Int) * 1) t)) :=
      ⟨_, lF, ⟨by kernel_rfl, by kernel_rfl, by kernel_rfl, by kernel_rfl, by kernel_rfl, by kernel_rfl, by kernel_rfl, by kernel_rfl, by kernel_rfl, by kernel_rfl⟩, ⟨tt1, by kernel_rfl⟩, ⟨ttn1, by kernel_rfl⟩, ⟨_, if_pos rfl⟩⟩
    clear lF
    refine feed_tells (dp := _) (un := _) (rest := (it2, o2) :: (it, o) :: (O, listOf vo.toArray no) :: (E, listOf ve.toArray ne) :: (D, listOf vr.toArray nr) :: rc) ⟨K0, lF3, KX, T, rfl⟩ hM (news_sub lN (fun p hp => .tail _ (perm3 p hp))) hxd (own_it hoff hito2) (feed_runs hlen (Nat.lt_of_lt_of_le hk hvl) hvv hall) rfl rfl ?hdp5 ?hun5 KX T ?hret5 ?hretE5
    case hdp5 => decide +kernel
    case hun5 => decide +kernel
    case hret5 =>
      intro M' mt' cells' gs' h' tk' hpost hM' hb F9 N9 hO9
      (try dsimp only)
      clear lN lF3
      ktr_step
      (rename Fr _ _ _ _ => lF)
      (rename News _ _ _ _ => lN)
      have hA : All w.params wd al rv (AskD rv b rows ends) false M' (total.drop (8 * (k0 + 1))) (8 * (k0 + 1)) := hpost
      exact MidG.mk lF lN ⟨rfl, bare_push hgs2 hb, hLN3, hto3, htu3, hk3, M', _, rfl, hA.here, .on hA hM' hO9⟩
    case hretE5 =>
      intro M' p7 tps7 acc7 st7 n17 n27 cells' gs' h' tk' hpost hD' ho1 ho2 hO9 hb F9 N9
      (try dsimp only)
      clear lN lF3
      ktr_step
      (rename Fr _ _ _ _ => lF)
      (rename News _ _ _ _ => lN)
      obtain ⟨hnil, hA⟩ : total.drop (8 * (k0 + 1)) = [] ∧ AskD rv b rows ends (8 * (k0 + 1)) M' := hpost
      exact MidG.mk lF lN ⟨rfl, bare_push hgs2 hb, hLN3, hto3, htu3, hk3, M', _, rfl, hA, .off (List.drop_eq_nil_iff.mp hnil) hD' ho1 ho2 hO9⟩
    -- F]]
  · clear F6 N6 hM hall hoff hD
    intro f s' hZ2
    refine wait fun cW hW => ?_
    obtain ⟨h9, tk9, gs3, mp, cells, rfl, F7, N7, rfl, hgs3, hN7, ⟨t1, ht1⟩, ⟨t2, ht2⟩, ⟨t3, ht3⟩, M7, dcs7, rfl, hAsk, hDec⟩ := hZ2
    refine hW ?_
    clear hW cW
    have N8 := news_sub N7 perm4
    clear N7
    rw [hN7.norm, map_put ht1, map_put ht2, map_put ht3] at F7
    unfold lawM at F7
    have hvrl : vr.length = rows.length := hra.len
    (try dsimp only)
    walk1
    (try dsimp only)
    refine cut (Q₁ := MidG g L s (LawTold al rv wd sl x O E D H tH tw b rows ends (0 + (i : Int) * 1) ((8 * (k0 + 1) : Nat) : Int) gs3 ((it2, o2) :: (it, o) :: (O, listOf vo.toArray no) :: (E, listOf ve.toArray ne) :: (D, listOf vr.toArray nr) :: (rc ++ dcs7)))) ?_ ?_
    · skip
      -- [[W
      with_unfolding_all
       refine' ksw_while (σ := (Nat × Tok) × (Array UInt8 × Tok)) (fun _ => (it2, o2) :: (it, o) :: (O, listOf vo.toArray no) :: (E, listOf ve.toArray ne) :: (D, listOf vr.toArray nr) :: (rc ++ dcs7)) (fun q => [(Str.ofString "told", .int q.1.1 q.1.2), (Str.ofString "due", .bytes q.2.1 q.2.2)]) (fun _ => True) [] (fun q => Told rv b rows ends ((8 * (k0 + 1) : Nat) : Int) q.1.1 q.2.1) (fun q => rows.length - q.1.1) ((told, t1), (due1, td1)) F7 N8 trivial ?kk ?kp ?turn7 ?he7
      case he7 => exact hE'
      case kk => kst_all
      case kp => exact hTold.later (by omega)
      case turn7 =>
        intro hZ0 u kh ktk _ kT kFr kNews
        refine wait fun cW hW => ?_
        obtain ⟨⟨td7, tt7⟩, ⟨du7, tdu7⟩⟩ := hZ0
        refine hW ?_
        clear hW cW
        dsimp only at kFr kT
        clear F7 N8
        have hto7 := kT.1
        have hsz7 : du7.size ≤ 1000 := by have := kT.2.1; omega
        (try dsimp only)
        ktr_enter
        · (rename Fr _ _ _ _ => lF)
          (rename News _ _ _ _ => lN)
          have hlt : td7 < rows.length := Int.ofNat_lt.1 (by assumption)
          obtain ⟨te, hte⟩ := ints_at hve td7 (by rw [hel]; exact hlt)
          refine item_at lN (.tail _ (.tail _ (.tail _ (.head _)))) (Int.natCast_nonneg _) (Int.ofNat_lt.2 (Nat.lt_of_lt_of_le hlt (Nat.le_trans hr3 (by decide)))) (by simpa using hte) ?_
          (try dsimp only)
          ktr_enter
          · (rename Fr _ _ _ _ => lF)
            (rename News _ _ _ _ => lN)
            refine wait fun cW hW => ?_
            obtain ⟨ra, vx, nx, row, hve2, hmr, hix, hrow⟩ := hra.get (List.getElem?_eq_getElem (show td7 < vr.length by rw [hra.len]; exact hlt))
            refine hW ?_
            clear hW cW
            have hv2 : vr[td7]? = some (.ref ra) := by rw [List.getElem?_eq_getElem (show td7 < vr.length by rw [hra.len]; exact hlt), hve2]
            have hxw : RowOk wd row := hro row (List.mem_of_getElem? hrow)
            refine item_at lN (.tail _ (.tail _ (.tail _ (.tail _ (.head _))))) (Int.natCast_nonneg _) (Int.ofNat_lt.2 (Nat.lt_of_lt_of_le hlt (Nat.le_trans hr3 (by decide)))) (by simpa using hv2) ?_
            (try dsimp only)
            ktr_enter
            (rename Fr _ _ _ _ => lF)
            (rename News _ _ _ _ => lN)
            refine packed_tells (dp := _) (un := _) ra nx vx row rv wd ⟨K0, lF, KX, T, rfl⟩ (fun p hp => by rw [List.mem_singleton.mp hp]; exact lN _ (.tail _ (.tail _ (.tail _ (.tail _ (.tail _ (List.mem_append_left _ hmr))))))) hix hxw.len hwd0 hwd1 hxw.bits ?hdp7 ?hun7 ?_
            case hdp7 => decide +kernel
            case hun7 => decide +kernel
            intro tp h8 tk8 k8
            have F8 := fr_all lF k8
            have N8 := news_all lN k8
            clear lF lN k8
            have hps := pk_size rv hxw hwd1
            (try dsimp only)
            ktr_enter
            refine KBy.add_bytes (Nat.le_trans (Nat.add_le_add hsz7 hps) (Nat.le_of_ble_eq_true rfl)) ?_
            intro _ _
            (try dsimp only)
            ktr_enter
            (rename Fr _ _ _ _ => lF)
            (rename News _ _ _ _ => lN)
            (try dsimp only [KswPost])
            refine ksw_end ((td7 + 1, _), (du7 ++ pk rv row, _)) lF lN (fun p hp => hp) trivial (by kst_all) (fun z hz hst => ?_) (kT.step hrow (get_at (by omega)) (by have := @List.getD_eq_getElem?_getD Int ends td7 0; omega) hxw hwd1) (Nat.sub_succ_lt_self _ _ hlt)
            have a1 : z ≠ Str.ofString "told" := hz _ (.head _)
            have a2 : z ≠ Str.ofString "due" := hz _ (.tail _ (.head _))
            simp only [kstB, if_neg a1, if_neg a2, hst, Bool.false_eq_true, if_false]
          · (rename Fr _ _ _ _ => lF)
            (rename News _ _ _ _ => lN)
            exact MidG.mk lF lN ⟨rfl, rfl, rfl, tdu7, tt7, t2, td7, du7, ⟨by kernel_rfl, by kernel_rfl, by kernel_rfl, by kernel_rfl, by kernel_rfl, by kernel_rfl, by kernel_rfl, by kernel_rfl, by kernel_rfl, by kernel_rfl⟩, by kernel_rfl, by kernel_rfl, kT, kT.stop (.inr ⟨_, get_at (by omega), by have := @List.getD_eq_getElem?_getD Int ends td7 0; omega⟩)⟩
        · (rename Fr _ _ _ _ => lF)
          (rename News _ _ _ _ => lN)
          exact MidG.mk lF lN ⟨rfl, rfl, rfl, tdu7, tt7, t2, td7, du7, ⟨by kernel_rfl, by kernel_rfl, by kernel_rfl, by kernel_rfl, by kernel_rfl, by kernel_rfl, by kernel_rfl, by kernel_rfl, by kernel_rfl, by kernel_rfl⟩, by kernel_rfl, by kernel_rfl, kT, kT.stop (.inl (by omega))⟩
      -- W]]
    · clear F7 N8 hN7 ht1 ht2 ht3
      intro f s' hZ2
      refine wait fun cW hW => ?_
      obtain ⟨h8, tk8, gs8, mp8, cells8, rfl, F8, N8, rfl, rfl, rfl, td8, tt8, ttn8, told8, due8, hN8, hto8, htu8, hTold8, hdue8⟩ := hZ2
      refine hW ?_
      clear hW cW
      refine wait fun cW hW => ?_
      obtain ⟨p0', tps', acc', st', n1', n2', dc8, hD8, ho1, ho2, hsub8⟩ := hDec.dec
      refine hW ?_
      clear hW cW
      refine wait fun cW hW => ?_
      obtain ⟨c', r', n', nc', nr'', k', vc'', vr'', twd', ty', tcp', tcol', tb', rfl, hxc', hdc', hxr', hdr', hcr', hic', hir'⟩ := id hD8
      refine hW ?_
      clear hW cW
      have lN8 : News g L h8 _ := news_sub N8 (fun p hp => .tail _ (.tail _ (.tail _ (.tail _ (.tail _ (List.mem_append_right _ (hsub8 p hp)))))))
      have F9 := F8
      rw [hN8.norm] at F9
      unfold lawM at F9
      (try dsimp only)
      ktr_enter
      (rename Fr _ _ _ _ => lF)
      refine close_tells (dp := _) (un := _) ⟨K0, lF, KX, T, rfl⟩ hD8 lN8 hxd ?hdp9 ?hun9 ?_
      case hdp9 => decide +kernel
      case hun9 => decide +kernel
      intro tb9 h9 tk9 D9
      have hks := aft_same D9 (fun p hp => (lN8 p hp).1) (fun _ h => h)
      have F11 := fr_all F8 hks
      have F10 := fr_all lF hks
      have N10 := news_all N8 hks
      clear lF lN8 D9 hks
      rw [show M7.S.buf = due8 from hAsk.1.trans hdue8]
      (try dsimp only)
      ktr_step
      · obtain ⟨hdrop, hne2⟩ := hDec.drop
        exact ⟨_, _, _, _, dcs7 ++ ((it, o) :: (O, listOf vo.toArray no) :: (E, listOf ve.toArray ne) :: (D, listOf vr.toArray nr) :: rc), rfl, F11, news_sub N10 perm6, off_app hne2 hito2, hgs3, td8, tt8, ttn8, due8, told8, M7, dcs7, hN8, hto8, htu8, rfl, hTold8, hdue8, hAsk.1.trans hdue8, hAsk.2, hdrop⟩

example : True := by w_top off; trivial
/-- behind the second picture's rows -/
inductive LawRows (wd : Int) (al rv : Bool) (sl x O E : Nat) (H : Int) (tH tw td : Tok) (b : Array UInt8) (it : Nat) (o : Obj) (dcs : List (Addr × Obj)) (gs0 : Array GenState) (f : Flow) (mp : Str → Option Value) (cells : List (Addr × Obj)) (gs : Array GenState) : Prop where
  | intro : f = .next → gs = gs0 → ∀ (D : Nat) (vr : List Value) (nr : Nat) (rc : List (Addr × Obj)) (rows : List (List Int)), LawN mp sl x O E D H wd tH tw td al rv b → cells = (it, o) :: (D, listOf vr.toArray nr) :: (rc ++ dcs) → RowsAt rc vr rows → (∀ r ∈ rows, RowOk wd r) → rows.length ≤ 3 → (∀ p ∈ (D, listOf vr.toArray nr) :: rc, ∀ q ∈ (it, o) :: dcs, p.1 ≠ q.1) → LawRows wd al rv sl x O E H tH tw td b it o dcs gs0 f mp cells gs
theorem rows_sub1 {l a i : Addr × Obj} {rc dc : List (Addr × Obj)} : ∀ p ∈ i :: a :: (rc ++ dc), p ∈ (a :: rc) ++ (l :: i :: dc) := fun p hp => by
  simp only [List.cons_append, List.mem_cons, List.mem_append] at hp ⊢
  rcases hp with h | h | h | h
  · exact .inr (.inr (.inr (.inl h)))
  · exact .inl h
  · exact .inr (.inl h)
  · exact .inr (.inr (.inr (.inr h)))
theorem rows_sub2 {l1 l a i : Addr × Obj} {rc dc : List (Addr × Obj)} : ∀ p ∈ i :: a :: (rc ++ dc), p ∈ (a :: rc) ++ (l1 :: l :: i :: dc) := fun p hp => by
  simp only [List.cons_append, List.mem_cons, List.mem_append] at hp ⊢
  rcases hp with h | h | h | h
  · exact .inr (.inr (.inr (.inr (.inl h))))
  · exact .inl h
  · exact .inr (.inl h)
  · exact .inr (.inr (.inr (.inr (.inr h))))
theorem law_sub2 {t a b i d : Addr × Obj} {rc dc : List (Addr × Obj)} : ∀ p ∈ i :: ([] ++ (dc ++ (a :: b :: d :: rc))), p ∈ t :: a :: b :: i :: d :: (rc ++ dc) := fun p hp => by
  simp only [List.nil_append, List.mem_cons, List.mem_append] at hp ⊢
  rcases hp with h | h | h | h | h | h
  · exact .inr (.inr (.inr (.inl h)))
  · exact .inr (.inr (.inr (.inr (.inr (.inr h)))))
  · exact .inr (.inl h)
  · exact .inr (.inr (.inl h))
  · exact .inr (.inr (.inr (.inr (.inl h))))
  · exact .inr (.inr (.inr (.inr (.inr (.inl h)))))
theorem law_off2 {it mt D oc e : Nat} {o om oD oO oE : Obj} {t : Addr × Obj} {rc dc : List (Addr × Obj)} (h6 : ∀ p ∈ (D, oD) :: rc, ∀ q ∈ (it, o) :: (mt, om) :: dc, p.1 ≠ q.1) (h7 : ∀ p ∈ [t, (oc, oO), (e, oE)], ∀ q ∈ (it, o) :: (D, oD) :: (rc ++ ((mt, om) :: dc)), p.1 ≠ q.1) (h8 : ∀ p ∈ (mt, om) :: dc, p.1 ≠ it) :
    (∀ p ∈ ((mt, om) :: dc) ++ ((oc, oO) :: (e, oE) :: (D, oD) :: rc), p.1 ≠ it) ∧ OwnOff ((oc, oO) :: (e, oE) :: (D, oD) :: rc) (mt :: dc.map (·.1)) := by
  refine ⟨fun p hp => ?_, fun p hp b hb => ?_⟩
  · rcases List.mem_append.mp hp with h | h
    · exact h8 p h
    · rcases List.mem_cons.mp h with rfl | h
      · exact h7 _ (.tail _ (.head _)) (it, o) (.head _)
      · rcases List.mem_cons.mp h with rfl | h
        · exact h7 _ (.tail _ (.tail _ (.head _))) (it, o) (.head _)
        · exact h6 p h (it, o) (.head _)
  · obtain ⟨q, hq, rfl⟩ : ∃ q ∈ (mt, om) :: dc, q.1 = b := by
      rcases List.mem_cons.mp hb with h | h
      · exact ⟨_, .head _, h.symm⟩
      · refine wait fun cW hW => ?_
        obtain ⟨q, hq, e⟩ := List.mem_map.mp h
        refine hW ?_
        clear hW cW
        exact ⟨q, .tail _ hq, e⟩
    have hq' : q ∈ (it, o) :: (D, oD) :: (rc ++ ((mt, om) :: dc)) := .tail _ (.tail _ (List.mem_append_right _ hq))
    rcases List.mem_cons.mp hp with rfl | h
    · exact h7 _ (.tail _ (.head _)) q hq'
    · rcases List.mem_cons.mp h with rfl | h
      · exact h7 _ (.tail _ (.tail _ (.head _))) q hq'
      · exact h6 p h q (.tail _ hq)
theorem law_reset {w : World} {mean : ExcName → Option Value} {mg mb : Str → Option Value} {g : Heap} {L fa cdv : Nat} {s : Shared} {Q : Flow → Shared → Prop} {E' : Value → Shared → Prop}
 (K0 : Below callerA g [] g) (KX : (hd.heap_39 w.params).In g) (T : Top hd.view_39 LS mean mg mb g)
 {ns : List Int} {vs : List Value} {sl : Nat} (hn63 : ns.length ≤ 63) (hL : g.IsList sl vs.toArray) (hI : IntsAre vs ns)
 {al rv : Bool} {wd : Int} {x dx O E D : Nat} {H : Int} {tH tw : Tok} {b : Array UInt8} {rows : List (List Int)} {ends : List Int} {total : List Bool} {i it : Nat} {o : Obj} {nO : Nat} {rest0 : List (Addr × Obj)}
 (hH0 : 0 ≤ H) (hi2 : i < 2) (hwd0 : 1 ≤ wd) (hwd1 : wd ≤ 12) (hxd : x ≠ dx) (hbs : b.size ≤ 6 * i) (hr3 : rows.length ≤ 3)
 {m9 : Str → Option Value} {nx9 : List (Addr × Obj)} {h9 : Heap} {tk9 : Nat} {gs9 : Array GenState}
 (hJ : LawK w.params al rv wd sl x dx O E D H tH tw b rows ends total (0 + (i : Int) * 1) ((it, o) :: rest0) nO m9 nx9 gs9)
 (F9 : Fr g L h9 m9) (N9 : News g L h9 nx9) :
 wpAny (model PG w) (callerA.deeper (lawE L fa cdv)) (execs ifB (lawE L fa cdv)) (GoPost g L it o [] (LawT w.params al rv wd sl x dx H tH tw) (i + 1) s Q) E' { s with heap := h9, toks := tk9, gens := gs9 } := by
  delta ifB lawE Cq_law at *
  (have hz : (PySem.Challenge.rw_ao0017_01 : OpenLaw) = PySem.Challenge.rw_ao0017_01 := rfl)
  revert KX hz
  k_fill
  intro KX hz
  clear hz
  refine wait fun cW hW => ?_
  obtain ⟨hgs9, td9, tt9, ttn9, b9, told9, M9, dcs9, hN9, hto9, htu9, rfl, hTold9, hdue9, hbuf9, hn9, hDec9⟩ := hJ
  refine hW ?_
  clear hW cW
  rw [hN9.norm, map_put hto9, map_put htu9] at F9
  unfold lawM at F9
  have hi01 : i = 0 ∨ i = 1 := by omega
  rcases hi01 with rfl | rfl
  · rw [show (0 + ((0 : Nat) : Int) * 1) = 0 from rfl] at F9
    have hb9 : b9.size ≤ 6 * 1 := by have := hTold9.1; have := hTold9.2.1; omega
    refine wait fun cW hW => ?_
    obtain ⟨p0', tps', acc', st', n1', n2', dc9, hD9, ho1, ho2, hsub9⟩ := hDec9.dec
    refine hW ?_
    clear hW cW
    have hoffd : ∀ p ∈ dc9, p.1 ≠ it := fun p hp => hDec9.drop.2 p (hsub9 p hp)
    have NA : News g L h9 ((it, o) :: dc9) := news_sub N9 (fun p hp => by
      rcases List.mem_cons.mp hp with h | h
      · exact h ▸ List.mem_append_right _ (.head _)
      · exact List.mem_append_left _ (hsub9 p h))
    have hM9 : M9.S.buf = b9 := hbuf9
    refine wait fun cW hW => ?_
    obtain ⟨c', r', n', nc', nr'', k', vc'', vr'', twd', ty', tcp', tcol', tb', rfl, hxc', hdc', hxr', hdr', hcr', hic', hir'⟩ := id hD9
    refine hW ?_
    clear hW cW
    (try dsimp only)
    ktr_enter
    (rename Fr _ _ _ _ => lF)
    refine reset_tells (dp := _) (un := _) ⟨K0, lF, KX, T, rfl⟩ hD9 ho1 ho2 (news_sub NA (fun p hp => .tail _ hp)) hxd hwd0 hwd1 ?hdpa ?huna ?_
    case hdpa => decide +kernel
    case huna => decide +kernel
    intro dca mta ha tka hMa Da
    refine wait fun cW hW => ?_
    obtain ⟨Fa, Na, hda⟩ := aft_beside lF NA hoffd Da
    refine hW ?_
    clear hW cW
    rw [hM9] at hMa
    clear lF NA N9 Da hD9 hDec9 ho1 ho2 hsub9 hoffd
    (try dsimp only)
    walk1
    (try dsimp only)
    refine cut (Q₁ := MidG g L s (LawRows wd al rv sl x O E H tH tw td9 b9 it o ((mta, methodObj (.ref 431) (.ref x)) :: dca) gs9)) ?_ ?_
    · ktr_step
      · (rename IntsAre _ (List.take _ _) => hI1)
        (rename Fr _ _ _ _ => lF)
        (rename News _ _ _ _ => lN)
        refine rows_tells (dp := _) (un := _) _ 0 _ _ wd _ ⟨K0, lF, KX, T, rfl⟩ (news_sub (new := [_]) lN (by k_allIn)) hI1 ?hn3 hwd0 hwd1 ?hdp ?hun ?_
        case hn3 => rw [List.length_take]; exact Nat.le_trans (Nat.min_le_left _ _) (Nat.sub_le_sub_right (Nat.min_le_left 7 _) 4)
        case hdp => decide +kernel
        case hun => decide +kernel
        intro D' vr' nr' rc' rows' h5 tk5 hra hro hrl D5
        have hr3' : rows'.length ≤ 3 := by rw [hrl, List.length_take]; exact Nat.le_trans (Nat.min_le_left _ _) (Nat.sub_le_sub_right (Nat.min_le_left 7 _) 4)
        have hoff5 := new_off lN (fun _ _ => List.not_mem_nil) D5
        obtain ⟨F5, N5⟩ := aft_add lF lN D5
        clear lF lN D5
        (try dsimp only)
        ktr_step
        (rename Fr _ _ _ _ => lF)
        (rename News _ _ _ _ => lN)
        exact MidG.mk lF (news_sub lN rows_sub1) ⟨rfl, rfl, D', vr', nr', rc', rows', ⟨by kernel_rfl, by kernel_rfl, by kernel_rfl, by kernel_rfl, by kernel_rfl, by kernel_rfl, by kernel_rfl, by kernel_rfl, by kernel_rfl, by kernel_rfl⟩, rfl, hra, hro, hr3', fun p hp q hq => hoff5 p hp q (.tail _ hq)⟩
      · (rename Fr _ _ _ _ => lF)
        (rename News _ _ _ _ => lN)
        refine rows_tells (dp := _) (un := _) _ 0 _ _ wd _ ⟨K0, lF, KX, T, rfl⟩ (news_sub (new := [_]) lN (by k_allIn)) (.cons 2 _ .nil) ?hn3 hwd0 hwd1 ?hdp ?hun ?_
        case hn3 => decide
        case hdp => decide +kernel
        case hun => decide +kernel
        intro D' vr' nr' rc' rows' h5 tk5 hra hro hrl D5
        have hr3' : rows'.length ≤ 3 := by rw [hrl]; decide
        have hoff5 := new_off lN (fun _ _ => List.not_mem_nil) D5
        obtain ⟨F5, N5⟩ := aft_add lF lN D5
        clear lF lN D5
        (try dsimp only)
        ktr_step
        (rename Fr _ _ _ _ => lF)
        (rename News _ _ _ _ => lN)
        exact MidG.mk lF (news_sub lN rows_sub2) ⟨rfl, rfl, D', vr', nr', rc', rows', ⟨by kernel_rfl, by kernel_rfl, by kernel_rfl, by kernel_rfl, by kernel_rfl, by kernel_rfl, by kernel_rfl, by kernel_rfl, by kernel_rfl, by kernel_rfl⟩, rfl, hra, hro, hr3', fun p hp q hq => hoff5 p hp q ((fun h => .tail _ (.tail _ h)) hq)⟩
    · clear Fa Na
      intro f s' hZ2
      refine wait fun cW hW => ?_
      obtain ⟨h6, tk6, gs6, mp, cells, rfl, F6, N6, rfl, rfl, D', vr', nr', rc', rows', hN6, rfl, hra, hro, hr3', hoff6⟩ := hZ2
      refine hW ?_
      clear hW cW
      rw [hN6.norm] at F6
      unfold lawM at F6
      (try dsimp only)
      ktr_step
      (rename Fr _ _ _ _ => lF)
      (rename News _ _ _ _ => lN)
      refine octets_tells (dp := _) (un := _) D' vr' nr' rc' rows' wd _ al _ ⟨K0, lF, KX, T, rfl⟩ (fun p hp => lN p ?hsub) hra hro hr3' hwd0 hwd1 ?hdp2 ?hun2 ?_
      case hsub =>
        rcases List.mem_cons.mp hp with h | h
        · exact h ▸ .tail _ (.head _)
        · exact .tail _ (.tail _ (List.mem_append_left _ h))
      case hdp2 => decide +kernel
      case hun2 => decide +kernel
      intro T1 oc e vo no ve ne bits q K ends2 h7 tk7 hP hq hlen hK hel hio hie D7
      have hoff7 := new_off lN (fun _ _ => List.not_mem_nil) D7
      obtain ⟨F7, N7⟩ := aft_add lF lN D7
      clear lF lN D7
      (try simp only [List.cons_append, List.nil_append] at N7)
      (try dsimp only)
      ktr_step
      (rename Fr _ _ _ _ => lF)
      (rename News _ _ _ _ => lN)
      have hio2 : IntsAre vo ((octsOf (bits ++ ((if (H.fdiv 48).fmod 2 == 1 then eofB else []) ++ List.replicate q false)) K).take K) := by
        rw [List.take_of_length_le (by rw [octsOf_len]; exact Nat.le_refl _)]
        exact hio
      obtain ⟨o1, o2⟩ := law_off2 hoff6 hoff7 hda
      exact ⟨_, _, _, _, ((mta, methodObj (.ref 431) (.ref x)) :: dca) ++ ((oc, listOf vo.toArray no) :: (e, listOf ve.toArray ne) :: (D', listOf vr'.toArray nr') :: rc'), rfl, lF, news_sub lN law_sub2, o1, hgs9, .inr ⟨oc, e, D', td9, b9, vo, ve, vr', no, ne, nr', rc', dca, rows', ends2, bits, q, K, K, (H.fdiv 48).fmod 2 == 1, mta, M9.n1, M9.n2, ⟨by kernel_rfl, by kernel_rfl, by kernel_rfl, by kernel_rfl, by kernel_rfl, by kernel_rfl, by kernel_rfl, by kernel_rfl, by kernel_rfl, by kernel_rfl⟩, rfl, hMa, hn9, o2, hb9, hio2, hie, hra, hro, hr3', hel, hP, hq, hlen, hK⟩⟩
  · rw [show (0 + ((1 : Nat) : Int) * 1) = 1 from rfl] at F9
    (try dsimp only)
    ktr_enter
    (rename Fr _ _ _ _ => lF)
    exact ⟨_, _, _, _, [], rfl, lF, news_sub N9 (fun p hp => List.mem_append_right _ (by rw [List.mem_singleton.mp hp]; exact .head _)), (fun p hp => nomatch hp), hgs9, .inl (Nat.le_refl 2)⟩

example : True := by w_top off; trivial
set_option maxHeartbeats 5000000 in
theorem law_turn {w : World} {mean : ExcName → Option Value} {mg mb : Str → Option Value} {g : Heap} {L fa cdv : Nat} {s : Shared} {Q : Flow → Shared → Prop} {E' : Value → Shared → Prop}
 (K0 : Below callerA g [] g) (KX : (hd.heap_39 w.params).In g) (T : Top hd.view_39 LS mean mg mb g)
 (hE' : PassesOwn (model PG w) (callerA.deeper (lawE L fa cdv)) (lawE L fa cdv) E')
 {ns : List Int} {vs : List Value} {sl : Nat} (hn63 : ns.length ≤ 63) (hL : g.IsList sl vs.toArray) (hI : IntsAre vs ns)
 {al rv : Bool} {wd : Int} {x dx : Nat} {H : Int} {tH tw : Tok} (hH0 : 0 ≤ H) (hwd0 : 1 ≤ wd) (hwd1 : wd ≤ 12) (hxd : x ≠ dx)
 {i : Nat} {ti : Tok} {m₁ : Str → Option Value} {nx : List (Addr × Obj)} {hh : Heap} {tk : Nat} {gs : Array GenState} {it : Nat} {o : Obj} (hi2 : i < 2)
 (hJ : LawT w.params al rv wd sl x dx H tH tw i m₁ nx gs) (hito : ∀ p ∈ nx, p.1 ≠ it)
 (F5 : Fr g L hh (fun y => if y = Str.ofString "turn" then some (.int (0 + (i : Int) * 1) ti) else m₁ y)) (N5 : News g L hh ((it, o) :: nx)) :
 wpAny (model PG w) (callerA.deeper (lawE L fa cdv)) (execs turnB (lawE L fa cdv)) (GoPost g L it o [] (LawT w.params al rv wd sl x dx H tH tw) (i + 1) s Q) E' { s with heap := hh, toks := tk, gens := gs } := by
  delta turnB lawE Cq_law at *
  (have hz : (PySem.Challenge.rw_ao0017_01 : OpenLaw) = PySem.Challenge.rw_ao0017_01 := rfl)
  revert KX hz
  k_fill
  intro KX hz
  clear hz
  obtain ⟨hgs, hJ⟩ := hJ
  rcases hJ with hJ | ⟨O, E, D, td, b, vo, ve, vr, no, ne, nr, rc, dc, rows, ends, bits, q, K, ct, ended, mt, j1, j2, hN, rfl, hM, hj, hoff, hbs, hvo, hve, hra, hro, hr3, hel, hP, hq, hlen, hK⟩
  · exact absurd hJ (Nat.not_le.2 hi2)
  have hall := pic_runs (rv := rv) (al := al) (D := AskD rv b rows ends) hwd0 hwd1 ended hq hP (ms0 w.params wd b j1 j2) b hro (rowOk_zero hwd0) (at_ms0 hj) (by omega) (fun j M _ h => h)
  generalize (bits ++ ((if ended then eofB else []) ++ List.replicate q false)) = total at hall hvo hlen
  clear hP hq
  refine wait fun cW hW => ?_
  obtain ⟨p0, tps, st, n1, n2, f, hD, hT, hn1, hn2, hof⟩ := id hM
  refine hW ?_
  clear hW cW
  refine wait fun cW hW => ?_
  obtain ⟨c, r, n, nc, nr', k, vc, vr', twd, ty, tcp, tcol, tb, rfl, hxc, hdc, hxr, hdr, hcr, hic, hir⟩ := id hD
  refine hW ?_
  clear hW cW
  have N6 : News g L hh _ := N5
  have F6 : Fr g L hh _ := F5
  clear N5 F5
  rw [hN.norm] at F6
  unfold lawM at F6
  (try simp only [List.cons_append, List.nil_append] at N6)
  (try dsimp only)
  ktr_step
  (rename Fr _ _ _ _ => lF)
  (rename News _ _ _ _ => lN)
  refine close_tells (dp := _) (un := _) ⟨K0, lF, KX, T, rfl⟩ hD (news_sub lN (by k_allIn)) hxd ?hdp2 ?hun2 ?_
  case hdp2 => decide +kernel
  case hun2 => decide +kernel
  intro tb2 h7 tk7 D7
  have hks := aft_same D7 (fun p hp => (news_sub (new := [(x, _), (dx, _), (c, _), (r, _)]) lN (by k_allIn) p hp).1) (fun _ h => h)
  have F8 := fr_all lF hks
  have N8 := news_all lN hks
  clear lF lN D7 hks
  rw [show (ms0 w.params wd b j1 j2).S.buf = b from rfl]
  (try dsimp only)
  ktr_step
  obtain ⟨nO, hvn⟩ : ∃ nO, vo.length = nO := ⟨_, rfl⟩
  have hvl : nO ≤ K := by rw [← hvn, hvo.length, List.length_take, octsOf_len]; omega
  have hvl5 : nO ≤ 5000 := by omega
  refine wpAny_For ?_
  (try dsimp only)
  ktr_step
  (rename Fr _ _ _ _ => lF)
  (rename News _ _ _ _ => lN)
  (rename IsRange _ _ _ _ _ _ _ _ => rgX)
  obtain ⟨mm2, lF, hN2, ⟨tt, htold⟩, ⟨ttn, hturn⟩⟩ : ∃ (mm2 : Str → Option Value), Fr g L _ mm2 ∧ LawN mm2 sl x O E D H wd tH tw td al rv b ∧ (∃ tt, mm2 (Str.ofString "told") = some (.int ((0 : Nat) : Int) tt)) ∧ (∃ ttn, mm2 (Str.ofString "turn") = some (.int (0 + (i : Int) * 1) ttn)) :=
    ⟨_, lF, ⟨by kernel_rfl, by kernel_rfl, by kernel_rfl, by kernel_rfl, by kernel_rfl, by kernel_rfl, by kernel_rfl, by kernel_rfl, by kernel_rfl, by kernel_rfl⟩, ⟨_, if_pos rfl⟩, ⟨_, (if_neg (by decide +kernel)).trans (if_pos rfl)⟩⟩
  have hd0 : due rv b rows ends ((8 * 0 : Nat) : Int) = b := by
    rw [Nat.mul_zero]
    exact hall.here.1.symm
  have hall0 : All w.params wd al rv (AskD rv b rows ends) false (ms0 w.params wd b j1 j2) (total.drop (8 * 0)) (8 * 0) := by
    rw [Nat.mul_zero, List.drop_zero]
    exact hall
  have hJK : LawK w.params al rv wd sl x dx O E D H tH tw b rows ends total (0 + (i : Int) * 1) ((it, o) :: (O, listOf vo.toArray no) :: (E, listOf ve.toArray ne) :: (D, listOf vr.toArray nr) :: rc) 0 mm2 _ gs :=
    ⟨hgs, td, tt, ttn, b, 0, ms0 w.params wd b j1 j2, _, hN2, htold, hturn, rfl, Told.zero .., hd0, rfl, hj, .on hall0 hM (own_it hoff hito)⟩
  have lN2 := news_sub lN perm1
  clear lN hoff hito hall hall0 hM hD hd0
  (try clear hT)
  (try clear hn1)
  (try clear hn2)
  (try clear hof)
  (try clear hic)
  (try clear hir)
  obtain ⟨os, hos, hol, hov⟩ : ∃ os : List Int, os = (octsOf total K).take ct ∧ os.length = nO ∧ ∀ k < nO, os.getD k 0 = valB ((total.drop (8 * k)).take 8) := by
    refine ⟨_, rfl, by rw [← hvo.length]; exact hvn, fun k hk => ?_⟩
    have hk2 : k < ((octsOf total K).take ct).length := by rw [← hvo.length, hvn]; exact hk
    rw [List.length_take, octsOf_len] at hk2
    rw [List.getD_eq_getElem?_getD, List.getElem?_take, if_pos (by omega), octsOf_get (by omega)]; rfl
  rw [← hos] at hvo
  clear hos
  refine go_range (n := nO) (J := LawK w.params al rv wd sl x dx O E D H tH tw b rows ends total (0 + (i : Int) * 1) ((it, o) :: (O, listOf vo.toArray no) :: (E, listOf ve.toArray ne) :: (D, listOf vr.toArray nr) :: rc)) rfl rgX ?hsm ?hrs lF lN2 rfl rfl ?hE3 hJK ?turn3 ?done3
  case hsm => exact small_one (by omega) (by omega) (by omega) (by omega)
  case hrs =>
    have := rangeSize_nat 0 (nO : Int)
    simpa using this
  case hE3 => exact hE'
  case turn3 =>
    clear lF lN2 hJK hN2 htold hturn rgX
    intro k0 tk0 m₂ nx2 hh2 tk2 gs2 it2 o2 hk hJ2 hito2 F6 N6
    exact law_k K0 KX T hE' hi2 hwd0 hwd1 hxd hbs hvo hve hra hro hr3 hel hlen hK hvn hvl hol hov hk hJ2 hito2 F6 N6
  case done3 =>
    clear lF lN2 hJK hN2 htold hturn rgX
    intro h9 tk9 gs9 m9 nx9 hJ9 F9 N9
    (try dsimp only)
    exact law_reset K0 KX T hn63 hL hI hH0 hi2 hwd0 hwd1 hxd hbs hr3 hJ9 F9 N9

example : True := by w_top off; trivial
set_option maxHeartbeats 5000000 in
theorem law_walk : PySem.Challenge.rw_ao0017_01.Holds := by
  refine hd ?_
  delta Aq_law Bq_law Cq_law hookK
  k_fill
  intro w s₀ s₁ mg mb G Y fa o pm cd doc dV kV ho hdf hcd hD hmg hg args vals as hpre hlay hrd hwl hlo
  have KX := kIn_of Y
  refine Ground.open G ?_
  intro T B D TE TW
  try (refine guard_noD D (by decide +kernel) ?_; clear D)
  refine wait fun cW hW => ?_
  obtain ⟨_, _, M⟩ := bmod_of_top T
  refine hW ?_
  clear hW cW
  refine wait fun cW hW => ?_
  obtain ⟨_, _, he, B0⟩ := based_of_top T rfl hmg ho hdf
  refine hW ?_
  clear hW cW
  have he' : cd = _ := he
  subst he'
  clear he
  clear hmg
  wrow_args hpre hlay hrd hwl hlo
  refine enter_call ?_
  w_top on
  have K0 := below_caller (Top.heap T)
  w_call any ho hdf hcd hD T F
  (try k_fold)
  (try dsimp only)
  rename_i w9 w8 w7 w6 ns hs hlay0 hLay hr hl2 lw4 lw3 sl vs lwl hL ra wl1 r0 hI hr2 hcond hcond2 h₁ N0
  have hn63 : ns.length ≤ 63 := by omega
  walk1
  (try dsimp only)
  refine cut (Q₁ := Mid s₁.heap s₁.heap.objs.size s₁ (LawA sl)) ?_ ?_
  · ktr_step
    · (rename Fr _ _ _ _ => lF)
      refine lawA_mid lF rfl ?_ ?_
      · rw [Int.fmod_eq_emod_of_nonneg _ (by decide)]; omega
      · rw [Int.fmod_eq_emod_of_nonneg _ (by decide)]; omega
    · (rename Fr _ _ _ _ => lF)
      exact lawA_mid lF rfl (by decide) (by decide)
  · clear F N0
    intro f s' hZ2
    refine wait fun cW hW => ?_
    obtain ⟨h2, tk2, mp, cells, rfl, F2, N2, rfl, H, tH, hH0, hH1, rfl, rfl⟩ := hZ2
    refine hW ?_
    clear hW cW
    (try dsimp only)
    walk1
    (try dsimp only)
    refine cut (Q₁ := Mid s₁.heap s₁.heap.objs.size s₁ (fun f mp cs => f = .next ∧ ∃ tw, mp = lawM1 H tH tw (1 + H.fmod 12) ((H.fdiv 12).fmod 2 == 1) ((H.fdiv 24).fmod 2 == 1) sl ∧ cs = [])) ?_ ?_
    · ktr_step
      (rename Fr _ _ _ _ => lF)
      (rename News _ _ _ _ => lN)
      exact Mid.mk lF (news_sub (new := []) lN (fun p hp => nomatch hp)) ⟨rfl, _, rfl, rfl⟩
    · clear F2 N2
      have hwd0 : 1 ≤ 1 + H.fmod 12 := by rw [Int.fmod_eq_emod_of_nonneg _ (by decide)]; omega
      have hwd1 : 1 + H.fmod 12 ≤ 12 := by rw [Int.fmod_eq_emod_of_nonneg _ (by decide)]; omega
      generalize 1 + H.fmod 12 = wd at hwd0 hwd1
      generalize ((H.fdiv 12).fmod 2 == 1) = al
      generalize ((H.fdiv 24).fmod 2 == 1) = rv
      intro f s' hZ2
      refine wait fun cW hW => ?_
      obtain ⟨h3, tk3, mp, cells, rfl, F3, N3, rfl, tw, rfl, rfl⟩ := hZ2
      refine hW ?_
      clear hW cW
      unfold lawM1 at F3
      (try dsimp only)
      walk1
      (try dsimp only)
      refine cut (Q₁ := Mid s₁.heap s₁.heap.objs.size s₁ (LawB w.params H tH tw wd al rv sl)) ?_ ?_
      · skip
        -- [[B
        repeat' (first | ((fail_if_success (with_reducible show Mid _ _ _ _ _ _)); (first | (k_unfold; (try dsimp only)) | walk1 | (dsimp only; walk1))))
        (rename Fr _ _ _ _ => lF)
        (rename News _ _ _ _ => lN)
        have NE : ∀ cV : Prop, (∀ (x dx c r mt : Nat) (k : Ks) (vc vr : List Value) (twd ty tcp tcol tb tps td : Tok), Fr s₁.heap s₁.heap.objs.size _ (lawM2 x #[] td H tH tw wd al rv sl) → News s₁.heap s₁.heap.objs.size _ [(mt, methodObj (.ref 431) (.ref x)), (x, instObj 557 dx), (dx, dictOf (decEs w.params k (.int 0 tps) (.int wd twd) (.bool al) (.int 0 ty) (.ref c) (.ref r) (.int (-1) tcp) (.int 1 tcol) (.ref mt) (.ref 139) (.bool rv) (.bytes #[] tb) none none) 12), (c, listOf vc.toArray 0), (r, listOf vr.toArray 0)] → IntsAre vc (List.replicate wd.toNat 1) → IntsAre vr (List.replicate wd.toNat 1) → @Ne Nat x dx → @Ne Nat x c → @Ne Nat dx c → @Ne Nat x r → @Ne Nat dx r → @Ne Nat c r → @Ne Nat x mt → @Ne Nat dx mt → @Ne Nat c mt → @Ne Nat r mt → cV) → cV := fun cV kV => kV _ _ _ _ _ ⟨_, _, _, _, _, _, _, _, _, _, _, _, 0, 0⟩ _ _ _ _ _ _ _ _ _ lF (news_sub lN (by k_allIn)) (ints_flat _ _ _) (ints_flat _ _ _) (by omega) (by omega) (by omega) (by omega) (by omega) (by omega) (by omega) (by omega) (by omega) (by omega)
        clear lF lN
        refine NE _ ?_
        clear NE
        intro x dx c r mt k vc vr twd ty tcp tcol tb tps td lF lN hvc hvr e1 e2 e3 e4 e5 e6 e7 e8 e9 e10
        exact Mid.mk lF lN ⟨rfl, x, dx, mt, td, _, rfl, rfl, e1, ⟨0, tps, .ref 139, none, none, 40, ⟨c, r, 12, 0, 0, k, vc, vr, twd, ty, tcp, tcol, tb, rfl, e2, e3, e4, e5, e6, hvc, hvr⟩, read_mode _, trivial, trivial, off4L e7 e8 e9 e10⟩⟩
        -- B]]
      · clear F3 N3
        intro f s' hZ2
        refine wait fun cW hW => ?_
        obtain ⟨h4, tk4, mp, cells, rfl, F4, N4, rfl, x, dx, mt, td, dc, rfl, rfl, hxd, hM⟩ := hZ2
        refine hW ?_
        clear hW cW
        unfold lawM2 lawM1 at F4
        (try dsimp only)
        ktr_step
        (rename Fr _ _ _ _ => lF)
        (rename News _ _ _ _ => lN)
        (rename IntsAre _ (List.take _ _) => hI1)
        refine rows_tells (dp := _) (un := _) _ 0 _ _ wd _ ⟨K0, lF, KX, T, rfl⟩ (news_sub (new := [_]) lN (by k_allIn)) hI1 ?hn3 hwd0 hwd1 ?hdp ?hun ?_
        case hn3 => rw [List.length_take]; exact Nat.le_trans (Nat.min_le_left _ _) (Nat.sub_le_sub_right (Nat.min_le_left 4 _) 1)
        case hdp => decide +kernel
        case hun => decide +kernel
        intro D vr nr rcells rows h5 tk5 hra hro hrl D5
        have hr3 : rows.length ≤ 3 := by rw [hrl, List.length_take]; exact Nat.le_trans (Nat.min_le_left _ _) (Nat.sub_le_sub_right (Nat.min_le_left 4 _) 1)
        have hoff5 := new_off lN (fun _ _ => List.not_mem_nil) D5
        obtain ⟨F5, N5⟩ := aft_add lF lN D5
        clear lF lN D5 hrl
        have N6 := news_sub N5 sub_c
        clear N5
        (try dsimp only)
        ktr_step
        (rename Fr _ _ _ _ => lF)
        (rename News _ _ _ _ => lN)
        refine octets_tells (dp := _) (un := _) D vr nr rcells rows wd _ al false ⟨K0, lF, KX, T, rfl⟩ (fun p hp => lN p ?hsub) hra hro hr3 hwd0 hwd1 ?hdp ?hun ?_
        case hsub =>
          rcases List.mem_cons.mp hp with h | h
          · exact h ▸ .head _
          · exact .tail _ (.tail _ (List.mem_append_left _ h))
        case hdp => decide +kernel
        case hun => decide +kernel
        intro T1 oc e vo no ve ne bits q K ends h6 tk6 hP hq hlen hK hel hio hie D6
        have hoff6 := new_off lN (fun _ _ => List.not_mem_nil) D6
        obtain ⟨F6, N6⟩ := aft_add lF lN D6
        clear lF lN D6
        (try simp only [List.cons_append, List.nil_append] at N6)
        (try dsimp only)
        have hvo : vo.length = K := by rw [hio.length, octsOf_len]
        have hmod0 : 0 ≤ (H.fdiv 96).fmod ((K : Int) + 1) := by rw [Int.fmod_eq_emod_of_nonneg _ (by omega)]; exact Int.emod_nonneg _ (by omega)
        ktr_step
        (rename Fr _ _ _ _ => lF)
        (rename News _ _ _ _ => lN)
        (rename IntsAre _ (List.take _ (octsOf _ _)) => hI2)
        have NE : ∀ cV : Prop, (∀ (O : Nat) (wv : List Value) (no' : Nat) (td' : Tok) (mm : Str → Option Value), IntsAre wv ((octsOf (bits ++ ((if false = true then eofB else []) ++ List.replicate q false)) K).take ((H.fdiv 96).fmod ((K : Int) + 1)).toNat) → Fr s₁.heap s₁.heap.objs.size _ mm → LawN mm sl x O e D H wd tH tw td' al rv #[] → News s₁.heap s₁.heap.objs.size _ (((mt, methodObj (.ref 431) (.ref x)) :: dc) ++ ((O, listOf wv.toArray no') :: (e, listOf ve.toArray ne) :: (D, listOf vr.toArray nr) :: rcells)) → OwnOff ((O, listOf wv.toArray no') :: (e, listOf ve.toArray ne) :: (D, listOf vr.toArray nr) :: rcells) (mt :: dc.map (·.1)) → cV) → cV := fun cV kV => kV _ _ 0 td _ hI2 lF ⟨by kernel_rfl, by kernel_rfl, by kernel_rfl, by kernel_rfl, by kernel_rfl, by kernel_rfl, by kernel_rfl, by kernel_rfl, by kernel_rfl, by kernel_rfl⟩ (news_sub lN law_sub) (law_off (by omega) (And.right (And.right (And.right (And.right (And.right (by assumption)))))) hoff6 hoff5)
        clear lF lN hI2 hoff5 hoff6 hI1
        refine NE _ ?_
        clear NE
        intro O wv no' td' mm hI2 lF hN lN hoff
        have hJ0 : LawT w.params al rv wd sl x dx H tH tw 0 mm _ s₁.gens := ⟨by rw [hg]; exact AllBare.empty, .inr ⟨O, e, D, td', #[], wv, ve, vr, no', ne, nr, rcells, dc, rows, ends, bits, q, K, _, false, mt, none, none, hN, rfl, hM, fun _ => rfl, hoff, Nat.le_refl _, hI2, hie, hra, hro, hr3, hel, hP, hq, hlen, hK⟩⟩
        clear hM hra hro hP hio hie hel hlen hI2 hoff hmod0 hq hK hr3
        rw [hN.norm] at lF hJ0
        clear hN hvo
        unfold lawM at lF
        refine wpAny_For ?_
        (try dsimp only)
        ktr_step
        (rename Fr _ _ _ _ => lF)
        (rename News _ _ _ _ => lN)
        (rename IsRange _ _ _ _ _ _ _ _ => rgX)
        refine go_range (n := 2) (J := LawT w.params al rv wd sl x dx H tH tw) rfl rgX (by decide +kernel) (by decide +kernel) lF lN rfl rfl ?hE hJ0 ?turn ?done
        case hE => passes_own
        case turn =>
          clear lF lN rgX
          intro i ti m₁ nx hh tk gs it o hi2 hJ hito F5 N5
          exact law_turn K0 KX T (by passes_own) hn63 hL (by assumption) hH0 hwd0 hwd1 hxd hi2 hJ hito F5 N5
        case done =>
          rintro hh tk gs m₁ nx ⟨hgs, _⟩ F9 N9
          (try dsimp only)
          ktr_step
          exact goodWG_reads (d := .bool true) B0 F9 hgs (fun _ => rfl) (.bool _) (fun _ => ⟨List.nodup_nil, fun _ h => absurd h List.not_mem_nil⟩) (by kernel_rfl) rfl

end Mine
theorem PySem.Challenge.cw_ao0017_01_holds : PySem.Challenge.rw_ao0017_01.Holds := by
  exact Mine.law_walk
