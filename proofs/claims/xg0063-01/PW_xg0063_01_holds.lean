import PyProof.Rows.All
import Wide.All
import OpenK.AllK
import Wide.FinOn
import PyProof.WalksPairs
import PyProof.Rows.GenSrcT
import Lean
import PySem.Challenge.RW_xg0063_01

section
open PySem PySem.W PyProof.Rows PySem.Calls PySem.Spec
set_option Elab.async false
set_option maxRecDepth 100000
set_option maxHeartbeats 0
namespace Mine

theorem t0 : Str.ofString "_law_owed" = ⟨⟨[nat_lit 95, nat_lit 108, nat_lit 97, nat_lit 119, nat_lit 95, nat_lit 111, nat_lit 119, nat_lit 101, nat_lit 100]⟩⟩ := rfl
theorem t1 : Str.ofString "entry" = ⟨⟨[nat_lit 101, nat_lit 110, nat_lit 116, nat_lit 114, nat_lit 121]⟩⟩ := rfl
theorem t2 : Str.ofString "cc" = ⟨⟨[nat_lit 99, nat_lit 99]⟩⟩ := rfl
theorem t3 : Str.ofString "nc" = ⟨⟨[nat_lit 110, nat_lit 99]⟩⟩ := rfl
theorem t4 : Str.ofString "tt" = ⟨⟨[nat_lit 116, nat_lit 116]⟩⟩ := rfl
theorem t5 : Str.ofString "ct" = ⟨⟨[nat_lit 99, nat_lit 116]⟩⟩ := rfl
theorem t6 : Str.ofString "callers" = ⟨⟨[nat_lit 99, nat_lit 97, nat_lit 108, nat_lit 108, nat_lit 101, nat_lit 114, nat_lit 115]⟩⟩ := rfl
theorem t7 : Str.ofString "name" = ⟨⟨[nat_lit 110, nat_lit 97, nat_lit 109, nat_lit 101]⟩⟩ := rfl
theorem t8 : Str.ofString ".0" = ⟨⟨[nat_lit 46, nat_lit 48]⟩⟩ := rfl
theorem t9 : Str.ofString "fast" = ⟨⟨[nat_lit 102, nat_lit 97, nat_lit 115, nat_lit 116]⟩⟩ := rfl
theorem t10 : Str.ofString "_law_turned" = ⟨⟨[nat_lit 95, nat_lit 108, nat_lit 97, nat_lit 119, nat_lit 95, nat_lit 116, nat_lit 117, nat_lit 114, nat_lit 110, nat_lit 101, nat_lit 100]⟩⟩ := rfl
theorem t11 : Str.ofString "entries" = ⟨⟨[nat_lit 101, nat_lit 110, nat_lit 116, nat_lit 114, nat_lit 105, nat_lit 101, nat_lit 115]⟩⟩ := rfl
theorem t12 : Str.ofString "c" = ⟨⟨[nat_lit 99]⟩⟩ := rfl
theorem t13 : Str.ofString "both" = ⟨⟨[nat_lit 98, nat_lit 111, nat_lit 116, nat_lit 104]⟩⟩ := rfl
theorem t14 : Str.ofString "add_func_stats" = ⟨⟨[nat_lit 97, nat_lit 100, nat_lit 100, nat_lit 95, nat_lit 102, nat_lit 117, nat_lit 110, nat_lit 99, nat_lit 95, nat_lit 115, nat_lit 116, nat_lit 97, nat_lit 116, nat_lit 115]⟩⟩ := rfl
theorem t15 : Str.ofString "fresh" = ⟨⟨[nat_lit 102, nat_lit 114, nat_lit 101, nat_lit 115, nat_lit 104]⟩⟩ := rfl
theorem t16 : Str.ofString "_law_run" = ⟨⟨[nat_lit 95, nat_lit 108, nat_lit 97, nat_lit 119, nat_lit 95, nat_lit 114, nat_lit 117, nat_lit 110]⟩⟩ := rfl
theorem t17 : Str.ofString "row" = ⟨⟨[nat_lit 114, nat_lit 111, nat_lit 119]⟩⟩ := rfl
theorem t18 : Str.ofString "first" = ⟨⟨[nat_lit 102, nat_lit 105, nat_lit 114, nat_lit 115, nat_lit 116]⟩⟩ := rfl
theorem t19 : Str.ofString "pile" = ⟨⟨[nat_lit 112, nat_lit 105, nat_lit 108, nat_lit 101]⟩⟩ := rfl
theorem t20 : Str.ofString "_Accumulator" = ⟨⟨[nat_lit 95, nat_lit 65, nat_lit 99, nat_lit 99, nat_lit 117, nat_lit 109, nat_lit 117, nat_lit 108, nat_lit 97, nat_lit 116, nat_lit 111, nat_lit 114]⟩⟩ := rfl
theorem t21 : Str.ofString "symbol" = ⟨⟨[nat_lit 115, nat_lit 121, nat_lit 109, nat_lit 98, nat_lit 111, nat_lit 108]⟩⟩ := rfl
theorem t22 : Str.ofString "ISEOF" = ⟨⟨[nat_lit 73, nat_lit 83, nat_lit 69, nat_lit 79, nat_lit 70]⟩⟩ := rfl
theorem t23 : Str.ofString "ISNONTERMINAL" = ⟨⟨[nat_lit 73, nat_lit 83, nat_lit 78, nat_lit 79, nat_lit 78, nat_lit 84, nat_lit 69, nat_lit 82, nat_lit 77, nat_lit 73, nat_lit 78, nat_lit 65, nat_lit 76]⟩⟩ := rfl
theorem t24 : Str.ofString "gone" = ⟨⟨[nat_lit 103, nat_lit 111, nat_lit 110, nat_lit 101]⟩⟩ := rfl
theorem t25 : Str.ofString "pop_from" = ⟨⟨[nat_lit 112, nat_lit 111, nat_lit 112, nat_lit 95, nat_lit 102, nat_lit 114, nat_lit 111, nat_lit 109]⟩⟩ := rfl
theorem t26 : Str.ofString "max" = ⟨⟨[nat_lit 109, nat_lit 97, nat_lit 120]⟩⟩ := rfl
theorem t27 : Str.ofString "part_count" = ⟨⟨[nat_lit 112, nat_lit 97, nat_lit 114, nat_lit 116, nat_lit 95, nat_lit 99, nat_lit 111, nat_lit 117, nat_lit 110, nat_lit 116]⟩⟩ := rfl
theorem t28 : Str.ofString "NT_OFFSET" = ⟨⟨[nat_lit 78, nat_lit 84, nat_lit 95, nat_lit 79, nat_lit 70, nat_lit 70, nat_lit 83, nat_lit 69, nat_lit 84]⟩⟩ := rfl
theorem t29 : Str.ofString "piece" = ⟨⟨[nat_lit 112, nat_lit 105, nat_lit 101, nat_lit 99, nat_lit 101]⟩⟩ := rfl
theorem t30 : Str.ofString "@^~" = ⟨⟨[nat_lit 64, nat_lit 94, nat_lit 126]⟩⟩ := rfl
theorem t31 : Str.ofString "index" = ⟨⟨[nat_lit 105, nat_lit 110, nat_lit 100, nat_lit 101, nat_lit 120]⟩⟩ := rfl
theorem t32 : Str.ofString "ISTERMINAL" = ⟨⟨[nat_lit 73, nat_lit 83, nat_lit 84, nat_lit 69, nat_lit 82, nat_lit 77, nat_lit 73, nat_lit 78, nat_lit 65, nat_lit 76]⟩⟩ := rfl
theorem t33 : Str.ofString "AT" = ⟨⟨[nat_lit 65, nat_lit 84]⟩⟩ := rfl
theorem t34 : Str.ofString "CIRCUMFLEX" = ⟨⟨[nat_lit 67, nat_lit 73, nat_lit 82, nat_lit 67, nat_lit 85, nat_lit 77, nat_lit 70, nat_lit 76, nat_lit 69, nat_lit 88]⟩⟩ := rfl
theorem t35 : Str.ofString "TILDE" = ⟨⟨[nat_lit 84, nat_lit 73, nat_lit 76, nat_lit 68, nat_lit 69]⟩⟩ := rfl
theorem t36 : Str.ofString "top" = ⟨⟨[nat_lit 116, nat_lit 111, nat_lit 112]⟩⟩ := rfl
theorem t37 : Str.ofString "pop" = ⟨⟨[nat_lit 112, nat_lit 111, nat_lit 112]⟩⟩ := rfl
theorem t38 : Str.ofString "" = ⟨⟨[]⟩⟩ := rfl
theorem t39 : Str.ofString "push" = ⟨⟨[nat_lit 112, nat_lit 117, nat_lit 115, nat_lit 104]⟩⟩ := rfl
theorem t40 : Str.ofString "_law_told" = ⟨⟨[nat_lit 95, nat_lit 108, nat_lit 97, nat_lit 119, nat_lit 95, nat_lit 116, nat_lit 111, nat_lit 108, nat_lit 100]⟩⟩ := rfl
theorem t41 : Str.ofString "text" = ⟨⟨[nat_lit 116, nat_lit 101, nat_lit 120, nat_lit 116]⟩⟩ := rfl
theorem t42 : Str.ofString "light" = ⟨⟨[nat_lit 108, nat_lit 105, nat_lit 103, nat_lit 104, nat_lit 116]⟩⟩ := rfl
theorem t43 : Str.ofString "step" = ⟨⟨[nat_lit 115, nat_lit 116, nat_lit 101, nat_lit 112]⟩⟩ := rfl
theorem t44 : Str.ofString "range" = ⟨⟨[nat_lit 114, nat_lit 97, nat_lit 110, nat_lit 103, nat_lit 101]⟩⟩ := rfl
theorem t45 : Str.ofString "levels" = ⟨⟨[nat_lit 108, nat_lit 101, nat_lit 118, nat_lit 101, nat_lit 108, nat_lit 115]⟩⟩ := rfl
theorem t46 : Str.ofString "hue" = ⟨⟨[nat_lit 104, nat_lit 117, nat_lit 101]⟩⟩ := rfl
theorem t47 : Str.ofString "share" = ⟨⟨[nat_lit 115, nat_lit 104, nat_lit 97, nat_lit 114, nat_lit 101]⟩⟩ := rfl
theorem t48 : Str.ofString "value" = ⟨⟨[nat_lit 118, nat_lit 97, nat_lit 108, nat_lit 117, nat_lit 101]⟩⟩ := rfl
theorem t49 : Str.ofString "rgb_to_hsv" = ⟨⟨[nat_lit 114, nat_lit 103, nat_lit 98, nat_lit 95, nat_lit 116, nat_lit 111, nat_lit 95, nat_lit 104, nat_lit 115, nat_lit 118]⟩⟩ := rfl
theorem t50 : Str.ofString "int" = ⟨⟨[nat_lit 105, nat_lit 110, nat_lit 116]⟩⟩ := rfl
theorem t51 : Str.ofString "sum" = ⟨⟨[nat_lit 115, nat_lit 117, nat_lit 109]⟩⟩ := rfl
theorem t52 : Str.ofString "ONE_SIXTH" = ⟨⟨[nat_lit 79, nat_lit 78, nat_lit 69, nat_lit 95, nat_lit 83, nat_lit 73, nat_lit 88, nat_lit 84, nat_lit 72]⟩⟩ := rfl
theorem t53 : Str.ofString "ONE_THIRD" = ⟨⟨[nat_lit 79, nat_lit 78, nat_lit 69, nat_lit 95, nat_lit 84, nat_lit 72, nat_lit 73, nat_lit 82, nat_lit 68]⟩⟩ := rfl
theorem t54 : Str.ofString "law" = ⟨⟨[nat_lit 108, nat_lit 97, nat_lit 119]⟩⟩ := rfl
theorem t55 : Str.ofString "script" = ⟨⟨[nat_lit 115, nat_lit 99, nat_lit 114, nat_lit 105, nat_lit 112, nat_lit 116]⟩⟩ := rfl
theorem t56 : Str.ofString "drawn" = ⟨⟨[nat_lit 100, nat_lit 114, nat_lit 97, nat_lit 119, nat_lit 110]⟩⟩ := rfl
theorem t57 : Str.ofString "x" = ⟨⟨[nat_lit 120]⟩⟩ := rfl
theorem t58 : Str.ofString "whole" = ⟨⟨[nat_lit 119, nat_lit 104, nat_lit 111, nat_lit 108, nat_lit 101]⟩⟩ := rfl
theorem t59 : Str.ofString "sides" = ⟨⟨[nat_lit 115, nat_lit 105, nat_lit 100, nat_lit 101, nat_lit 115]⟩⟩ := rfl
theorem t60 : Str.ofString "_law_left" = ⟨⟨[nat_lit 95, nat_lit 108, nat_lit 97, nat_lit 119, nat_lit 95, nat_lit 108, nat_lit 101, nat_lit 102, nat_lit 116]⟩⟩ := rfl
theorem t61 : Str.ofString "_law_row" = ⟨⟨[nat_lit 95, nat_lit 108, nat_lit 97, nat_lit 119, nat_lit 95, nat_lit 114, nat_lit 111, nat_lit 119]⟩⟩ := rfl
theorem t62 : Str.ofString "_law_entries" = ⟨⟨[nat_lit 95, nat_lit 108, nat_lit 97, nat_lit 119, nat_lit 95, nat_lit 101, nat_lit 110, nat_lit 116, nat_lit 114, nat_lit 105, nat_lit 101, nat_lit 115]⟩⟩ := rfl
theorem t63 : Str.ofString "str" = ⟨⟨[nat_lit 115, nat_lit 116, nat_lit 114]⟩⟩ := rfl
theorem t64 : Str.ofString "len" = ⟨⟨[nat_lit 108, nat_lit 101, nat_lit 110]⟩⟩ := rfl
theorem t65 : Str.ofString "count_calls" = ⟨⟨[nat_lit 99, nat_lit 111, nat_lit 117, nat_lit 110, nat_lit 116, nat_lit 95, nat_lit 99, nat_lit 97, nat_lit 108, nat_lit 108, nat_lit 115]⟩⟩ := rfl
theorem t66 : Str.ofString "_law_light" = ⟨⟨[nat_lit 95, nat_lit 108, nat_lit 97, nat_lit 119, nat_lit 95, nat_lit 108, nat_lit 105, nat_lit 103, nat_lit 104, nat_lit 116]⟩⟩ := rfl
theorem t67 : Str.ofString "__name__" = ⟨⟨[nat_lit 95, nat_lit 95, nat_lit 110, nat_lit 97, nat_lit 109, nat_lit 101, nat_lit 95, nat_lit 95]⟩⟩ := rfl
theorem t68 : Str.ofString "law_xg0063_01" = ⟨⟨[nat_lit 108, nat_lit 97, nat_lit 119, nat_lit 95, nat_lit 120, nat_lit 103, nat_lit 48, nat_lit 48, nat_lit 54, nat_lit 51, nat_lit 95, nat_lit 48, nat_lit 49]⟩⟩ := rfl
theorem t69 : Str.ofString "append" = ⟨⟨[nat_lit 97, nat_lit 112, nat_lit 112, nat_lit 101, nat_lit 110, nat_lit 100]⟩⟩ := rfl
theorem t70 : Str.ofString "EXACT_TOKEN_TYPES" = ⟨⟨[nat_lit 69, nat_lit 88, nat_lit 65, nat_lit 67, nat_lit 84, nat_lit 95, nat_lit 84, nat_lit 79, nat_lit 75, nat_lit 69, nat_lit 78, nat_lit 95, nat_lit 84, nat_lit 89, nat_lit 80, nat_lit 69, nat_lit 83]⟩⟩ := rfl
theorem t71 : Str.ofString "ENDMARKER" = ⟨⟨[nat_lit 69, nat_lit 78, nat_lit 68, nat_lit 77, nat_lit 65, nat_lit 82, nat_lit 75, nat_lit 69, nat_lit 82]⟩⟩ := rfl
theorem t72 : Str.ofString "replace" = ⟨⟨[nat_lit 114, nat_lit 101, nat_lit 112, nat_lit 108, nat_lit 97, nat_lit 99, nat_lit 101]⟩⟩ := rfl
theorem t73 : Str.ofString "@@" = ⟨⟨[nat_lit 64, nat_lit 64]⟩⟩ := rfl
theorem t74 : Str.ofString "^^" = ⟨⟨[nat_lit 94, nat_lit 94]⟩⟩ := rfl
theorem t75 : Str.ofString "~~" = ⟨⟨[nat_lit 126, nat_lit 126]⟩⟩ := rfl
theorem t76 : Str.ofString "sign" = ⟨⟨[nat_lit 115, nat_lit 105, nat_lit 103, nat_lit 110]⟩⟩ := rfl
theorem t77 : Str.ofString "red" = ⟨⟨[nat_lit 114, nat_lit 101, nat_lit 100]⟩⟩ := rfl
theorem t78 : Str.ofString "green" = ⟨⟨[nat_lit 103, nat_lit 114, nat_lit 101, nat_lit 101, nat_lit 110]⟩⟩ := rfl
theorem t79 : Str.ofString "blue" = ⟨⟨[nat_lit 98, nat_lit 108, nat_lit 117, nat_lit 101]⟩⟩ := rfl
theorem t80 : Str.ofString "^=" = ⟨⟨[nat_lit 94, nat_lit 61]⟩⟩ := rfl
theorem t81 : Str.ofString "{" = ⟨⟨[nat_lit 123]⟩⟩ := rfl
theorem t82 : Str.ofString "|" = ⟨⟨[nat_lit 124]⟩⟩ := rfl
theorem t83 : Str.ofString "|=" = ⟨⟨[nat_lit 124, nat_lit 61]⟩⟩ := rfl
theorem t84 : Str.ofString "}" = ⟨⟨[nat_lit 125]⟩⟩ := rfl
theorem t85 : Str.ofString "~" = ⟨⟨[nat_lit 126]⟩⟩ := rfl
theorem t86 : Str.ofString ">>=" = ⟨⟨[nat_lit 62, nat_lit 62, nat_lit 61]⟩⟩ := rfl
theorem t87 : Str.ofString "@" = ⟨⟨[nat_lit 64]⟩⟩ := rfl
theorem t88 : Str.ofString "@=" = ⟨⟨[nat_lit 64, nat_lit 61]⟩⟩ := rfl
theorem t89 : Str.ofString "[" = ⟨⟨[nat_lit 91]⟩⟩ := rfl
theorem t90 : Str.ofString "]" = ⟨⟨[nat_lit 93]⟩⟩ := rfl
theorem t91 : Str.ofString "^" = ⟨⟨[nat_lit 94]⟩⟩ := rfl
theorem t92 : Str.ofString "<=" = ⟨⟨[nat_lit 60, nat_lit 61]⟩⟩ := rfl
theorem t93 : Str.ofString "=" = ⟨⟨[nat_lit 61]⟩⟩ := rfl
theorem t94 : Str.ofString "==" = ⟨⟨[nat_lit 61, nat_lit 61]⟩⟩ := rfl
theorem t95 : Str.ofString ">" = ⟨⟨[nat_lit 62]⟩⟩ := rfl
theorem t96 : Str.ofString ">=" = ⟨⟨[nat_lit 62, nat_lit 61]⟩⟩ := rfl
theorem t97 : Str.ofString ">>" = ⟨⟨[nat_lit 62, nat_lit 62]⟩⟩ := rfl
theorem t98 : Str.ofString ":" = ⟨⟨[nat_lit 58]⟩⟩ := rfl
theorem t99 : Str.ofString ":=" = ⟨⟨[nat_lit 58, nat_lit 61]⟩⟩ := rfl
theorem t100 : Str.ofString ";" = ⟨⟨[nat_lit 59]⟩⟩ := rfl
theorem t101 : Str.ofString "<" = ⟨⟨[nat_lit 60]⟩⟩ := rfl
theorem t102 : Str.ofString "<<" = ⟨⟨[nat_lit 60, nat_lit 60]⟩⟩ := rfl
theorem t103 : Str.ofString "<<=" = ⟨⟨[nat_lit 60, nat_lit 60, nat_lit 61]⟩⟩ := rfl
theorem t104 : Str.ofString "." = ⟨⟨[nat_lit 46]⟩⟩ := rfl
theorem t105 : Str.ofString "..." = ⟨⟨[nat_lit 46, nat_lit 46, nat_lit 46]⟩⟩ := rfl
theorem t106 : Str.ofString "/" = ⟨⟨[nat_lit 47]⟩⟩ := rfl
theorem t107 : Str.ofString "//" = ⟨⟨[nat_lit 47, nat_lit 47]⟩⟩ := rfl
theorem t108 : Str.ofString "//=" = ⟨⟨[nat_lit 47, nat_lit 47, nat_lit 61]⟩⟩ := rfl
theorem t109 : Str.ofString "/=" = ⟨⟨[nat_lit 47, nat_lit 61]⟩⟩ := rfl
theorem t110 : Str.ofString "+" = ⟨⟨[nat_lit 43]⟩⟩ := rfl
theorem t111 : Str.ofString "+=" = ⟨⟨[nat_lit 43, nat_lit 61]⟩⟩ := rfl
theorem t112 : Str.ofString "," = ⟨⟨[nat_lit 44]⟩⟩ := rfl
theorem t113 : Str.ofString "-" = ⟨⟨[nat_lit 45]⟩⟩ := rfl
theorem t114 : Str.ofString "-=" = ⟨⟨[nat_lit 45, nat_lit 61]⟩⟩ := rfl
theorem t115 : Str.ofString "->" = ⟨⟨[nat_lit 45, nat_lit 62]⟩⟩ := rfl
theorem t116 : Str.ofString "(" = ⟨⟨[nat_lit 40]⟩⟩ := rfl
theorem t117 : Str.ofString ")" = ⟨⟨[nat_lit 41]⟩⟩ := rfl
theorem t118 : Str.ofString "*" = ⟨⟨[nat_lit 42]⟩⟩ := rfl
theorem t119 : Str.ofString "**" = ⟨⟨[nat_lit 42, nat_lit 42]⟩⟩ := rfl
theorem t120 : Str.ofString "**=" = ⟨⟨[nat_lit 42, nat_lit 42, nat_lit 61]⟩⟩ := rfl
theorem t121 : Str.ofString "*=" = ⟨⟨[nat_lit 42, nat_lit 61]⟩⟩ := rfl
theorem t122 : Str.ofString "!" = ⟨⟨[nat_lit 33]⟩⟩ := rfl
theorem t123 : Str.ofString "!=" = ⟨⟨[nat_lit 33, nat_lit 61]⟩⟩ := rfl
theorem t124 : Str.ofString "%" = ⟨⟨[nat_lit 37]⟩⟩ := rfl
theorem t125 : Str.ofString "%=" = ⟨⟨[nat_lit 37, nat_lit 61]⟩⟩ := rfl
theorem t126 : Str.ofString "&" = ⟨⟨[nat_lit 38]⟩⟩ := rfl
theorem t127 : Str.ofString "&=" = ⟨⟨[nat_lit 38, nat_lit 61]⟩⟩ := rfl
theorem t128 : Str.ofString "CIRCUMFLEXEQUAL" = ⟨⟨[nat_lit 67, nat_lit 73, nat_lit 82, nat_lit 67, nat_lit 85, nat_lit 77, nat_lit 70, nat_lit 76, nat_lit 69, nat_lit 88, nat_lit 69, nat_lit 81, nat_lit 85, nat_lit 65, nat_lit 76]⟩⟩ := rfl
theorem t129 : Str.ofString "LBRACE" = ⟨⟨[nat_lit 76, nat_lit 66, nat_lit 82, nat_lit 65, nat_lit 67, nat_lit 69]⟩⟩ := rfl
theorem t130 : Str.ofString "VBAR" = ⟨⟨[nat_lit 86, nat_lit 66, nat_lit 65, nat_lit 82]⟩⟩ := rfl
theorem t131 : Str.ofString "VBAREQUAL" = ⟨⟨[nat_lit 86, nat_lit 66, nat_lit 65, nat_lit 82, nat_lit 69, nat_lit 81, nat_lit 85, nat_lit 65, nat_lit 76]⟩⟩ := rfl
theorem t132 : Str.ofString "RBRACE" = ⟨⟨[nat_lit 82, nat_lit 66, nat_lit 82, nat_lit 65, nat_lit 67, nat_lit 69]⟩⟩ := rfl
theorem t133 : Str.ofString "RIGHTSHIFTEQUAL" = ⟨⟨[nat_lit 82, nat_lit 73, nat_lit 71, nat_lit 72, nat_lit 84, nat_lit 83, nat_lit 72, nat_lit 73, nat_lit 70, nat_lit 84, nat_lit 69, nat_lit 81, nat_lit 85, nat_lit 65, nat_lit 76]⟩⟩ := rfl
theorem t134 : Str.ofString "ATEQUAL" = ⟨⟨[nat_lit 65, nat_lit 84, nat_lit 69, nat_lit 81, nat_lit 85, nat_lit 65, nat_lit 76]⟩⟩ := rfl
theorem t135 : Str.ofString "LSQB" = ⟨⟨[nat_lit 76, nat_lit 83, nat_lit 81, nat_lit 66]⟩⟩ := rfl
theorem t136 : Str.ofString "RSQB" = ⟨⟨[nat_lit 82, nat_lit 83, nat_lit 81, nat_lit 66]⟩⟩ := rfl
theorem t137 : Str.ofString "LESSEQUAL" = ⟨⟨[nat_lit 76, nat_lit 69, nat_lit 83, nat_lit 83, nat_lit 69, nat_lit 81, nat_lit 85, nat_lit 65, nat_lit 76]⟩⟩ := rfl
theorem t138 : Str.ofString "EQUAL" = ⟨⟨[nat_lit 69, nat_lit 81, nat_lit 85, nat_lit 65, nat_lit 76]⟩⟩ := rfl
theorem t139 : Str.ofString "EQEQUAL" = ⟨⟨[nat_lit 69, nat_lit 81, nat_lit 69, nat_lit 81, nat_lit 85, nat_lit 65, nat_lit 76]⟩⟩ := rfl
theorem t140 : Str.ofString "GREATER" = ⟨⟨[nat_lit 71, nat_lit 82, nat_lit 69, nat_lit 65, nat_lit 84, nat_lit 69, nat_lit 82]⟩⟩ := rfl
theorem t141 : Str.ofString "GREATEREQUAL" = ⟨⟨[nat_lit 71, nat_lit 82, nat_lit 69, nat_lit 65, nat_lit 84, nat_lit 69, nat_lit 82, nat_lit 69, nat_lit 81, nat_lit 85, nat_lit 65, nat_lit 76]⟩⟩ := rfl
theorem t142 : Str.ofString "RIGHTSHIFT" = ⟨⟨[nat_lit 82, nat_lit 73, nat_lit 71, nat_lit 72, nat_lit 84, nat_lit 83, nat_lit 72, nat_lit 73, nat_lit 70, nat_lit 84]⟩⟩ := rfl
theorem t143 : Str.ofString "COLON" = ⟨⟨[nat_lit 67, nat_lit 79, nat_lit 76, nat_lit 79, nat_lit 78]⟩⟩ := rfl
theorem t144 : Str.ofString "COLONEQUAL" = ⟨⟨[nat_lit 67, nat_lit 79, nat_lit 76, nat_lit 79, nat_lit 78, nat_lit 69, nat_lit 81, nat_lit 85, nat_lit 65, nat_lit 76]⟩⟩ := rfl
theorem t145 : Str.ofString "SEMI" = ⟨⟨[nat_lit 83, nat_lit 69, nat_lit 77, nat_lit 73]⟩⟩ := rfl
theorem t146 : Str.ofString "LESS" = ⟨⟨[nat_lit 76, nat_lit 69, nat_lit 83, nat_lit 83]⟩⟩ := rfl
theorem t147 : Str.ofString "LEFTSHIFT" = ⟨⟨[nat_lit 76, nat_lit 69, nat_lit 70, nat_lit 84, nat_lit 83, nat_lit 72, nat_lit 73, nat_lit 70, nat_lit 84]⟩⟩ := rfl
theorem t148 : Str.ofString "LEFTSHIFTEQUAL" = ⟨⟨[nat_lit 76, nat_lit 69, nat_lit 70, nat_lit 84, nat_lit 83, nat_lit 72, nat_lit 73, nat_lit 70, nat_lit 84, nat_lit 69, nat_lit 81, nat_lit 85, nat_lit 65, nat_lit 76]⟩⟩ := rfl
theorem t149 : Str.ofString "DOT" = ⟨⟨[nat_lit 68, nat_lit 79, nat_lit 84]⟩⟩ := rfl
theorem t150 : Str.ofString "ELLIPSIS" = ⟨⟨[nat_lit 69, nat_lit 76, nat_lit 76, nat_lit 73, nat_lit 80, nat_lit 83, nat_lit 73, nat_lit 83]⟩⟩ := rfl
theorem t151 : Str.ofString "SLASH" = ⟨⟨[nat_lit 83, nat_lit 76, nat_lit 65, nat_lit 83, nat_lit 72]⟩⟩ := rfl
theorem t152 : Str.ofString "DOUBLESLASH" = ⟨⟨[nat_lit 68, nat_lit 79, nat_lit 85, nat_lit 66, nat_lit 76, nat_lit 69, nat_lit 83, nat_lit 76, nat_lit 65, nat_lit 83, nat_lit 72]⟩⟩ := rfl
theorem t153 : Str.ofString "DOUBLESLASHEQUAL" = ⟨⟨[nat_lit 68, nat_lit 79, nat_lit 85, nat_lit 66, nat_lit 76, nat_lit 69, nat_lit 83, nat_lit 76, nat_lit 65, nat_lit 83, nat_lit 72, nat_lit 69, nat_lit 81, nat_lit 85, nat_lit 65, nat_lit 76]⟩⟩ := rfl
theorem t154 : Str.ofString "SLASHEQUAL" = ⟨⟨[nat_lit 83, nat_lit 76, nat_lit 65, nat_lit 83, nat_lit 72, nat_lit 69, nat_lit 81, nat_lit 85, nat_lit 65, nat_lit 76]⟩⟩ := rfl
theorem t155 : Str.ofString "PLUS" = ⟨⟨[nat_lit 80, nat_lit 76, nat_lit 85, nat_lit 83]⟩⟩ := rfl
theorem t156 : Str.ofString "PLUSEQUAL" = ⟨⟨[nat_lit 80, nat_lit 76, nat_lit 85, nat_lit 83, nat_lit 69, nat_lit 81, nat_lit 85, nat_lit 65, nat_lit 76]⟩⟩ := rfl
theorem t157 : Str.ofString "COMMA" = ⟨⟨[nat_lit 67, nat_lit 79, nat_lit 77, nat_lit 77, nat_lit 65]⟩⟩ := rfl
theorem t158 : Str.ofString "MINUS" = ⟨⟨[nat_lit 77, nat_lit 73, nat_lit 78, nat_lit 85, nat_lit 83]⟩⟩ := rfl
theorem t159 : Str.ofString "MINEQUAL" = ⟨⟨[nat_lit 77, nat_lit 73, nat_lit 78, nat_lit 69, nat_lit 81, nat_lit 85, nat_lit 65, nat_lit 76]⟩⟩ := rfl
theorem t160 : Str.ofString "RARROW" = ⟨⟨[nat_lit 82, nat_lit 65, nat_lit 82, nat_lit 82, nat_lit 79, nat_lit 87]⟩⟩ := rfl
theorem t161 : Str.ofString "LPAR" = ⟨⟨[nat_lit 76, nat_lit 80, nat_lit 65, nat_lit 82]⟩⟩ := rfl
theorem t162 : Str.ofString "RPAR" = ⟨⟨[nat_lit 82, nat_lit 80, nat_lit 65, nat_lit 82]⟩⟩ := rfl
theorem t163 : Str.ofString "STAR" = ⟨⟨[nat_lit 83, nat_lit 84, nat_lit 65, nat_lit 82]⟩⟩ := rfl
theorem t164 : Str.ofString "DOUBLESTAR" = ⟨⟨[nat_lit 68, nat_lit 79, nat_lit 85, nat_lit 66, nat_lit 76, nat_lit 69, nat_lit 83, nat_lit 84, nat_lit 65, nat_lit 82]⟩⟩ := rfl
theorem t165 : Str.ofString "DOUBLESTAREQUAL" = ⟨⟨[nat_lit 68, nat_lit 79, nat_lit 85, nat_lit 66, nat_lit 76, nat_lit 69, nat_lit 83, nat_lit 84, nat_lit 65, nat_lit 82, nat_lit 69, nat_lit 81, nat_lit 85, nat_lit 65, nat_lit 76]⟩⟩ := rfl
theorem t166 : Str.ofString "STAREQUAL" = ⟨⟨[nat_lit 83, nat_lit 84, nat_lit 65, nat_lit 82, nat_lit 69, nat_lit 81, nat_lit 85, nat_lit 65, nat_lit 76]⟩⟩ := rfl
theorem t167 : Str.ofString "EXCLAMATION" = ⟨⟨[nat_lit 69, nat_lit 88, nat_lit 67, nat_lit 76, nat_lit 65, nat_lit 77, nat_lit 65, nat_lit 84, nat_lit 73, nat_lit 79, nat_lit 78]⟩⟩ := rfl
theorem t168 : Str.ofString "NOTEQUAL" = ⟨⟨[nat_lit 78, nat_lit 79, nat_lit 84, nat_lit 69, nat_lit 81, nat_lit 85, nat_lit 65, nat_lit 76]⟩⟩ := rfl
theorem t169 : Str.ofString "PERCENT" = ⟨⟨[nat_lit 80, nat_lit 69, nat_lit 82, nat_lit 67, nat_lit 69, nat_lit 78, nat_lit 84]⟩⟩ := rfl
theorem t170 : Str.ofString "PERCENTEQUAL" = ⟨⟨[nat_lit 80, nat_lit 69, nat_lit 82, nat_lit 67, nat_lit 69, nat_lit 78, nat_lit 84, nat_lit 69, nat_lit 81, nat_lit 85, nat_lit 65, nat_lit 76]⟩⟩ := rfl
theorem t171 : Str.ofString "AMPER" = ⟨⟨[nat_lit 65, nat_lit 77, nat_lit 80, nat_lit 69, nat_lit 82]⟩⟩ := rfl
theorem t172 : Str.ofString "AMPEREQUAL" = ⟨⟨[nat_lit 65, nat_lit 77, nat_lit 80, nat_lit 69, nat_lit 82, nat_lit 69, nat_lit 81, nat_lit 85, nat_lit 65, nat_lit 76]⟩⟩ := rfl
theorem t173 : Str.ofString "target" = ⟨⟨[nat_lit 116, nat_lit 97, nat_lit 114, nat_lit 103, nat_lit 101, nat_lit 116]⟩⟩ := rfl
theorem t174 : Str.ofString "source" = ⟨⟨[nat_lit 115, nat_lit 111, nat_lit 117, nat_lit 114, nat_lit 99, nat_lit 101]⟩⟩ := rfl
theorem t175 : Str.ofString "t_cc" = ⟨⟨[nat_lit 116, nat_lit 95, nat_lit 99, nat_lit 99]⟩⟩ := rfl
theorem t176 : Str.ofString "t_nc" = ⟨⟨[nat_lit 116, nat_lit 95, nat_lit 110, nat_lit 99]⟩⟩ := rfl
theorem t177 : Str.ofString "t_tt" = ⟨⟨[nat_lit 116, nat_lit 95, nat_lit 116, nat_lit 116]⟩⟩ := rfl
theorem t178 : Str.ofString "t_ct" = ⟨⟨[nat_lit 116, nat_lit 95, nat_lit 99, nat_lit 116]⟩⟩ := rfl
theorem t179 : Str.ofString "t_callers" = ⟨⟨[nat_lit 116, nat_lit 95, nat_lit 99, nat_lit 97, nat_lit 108, nat_lit 108, nat_lit 101, nat_lit 114, nat_lit 115]⟩⟩ := rfl
theorem t180 : Str.ofString "add_callers" = ⟨⟨[nat_lit 97, nat_lit 100, nat_lit 100, nat_lit 95, nat_lit 99, nat_lit 97, nat_lit 108, nat_lit 108, nat_lit 101, nat_lit 114, nat_lit 115]⟩⟩ := rfl
theorem t181 : Str.ofString "new_callers" = ⟨⟨[nat_lit 110, nat_lit 101, nat_lit 119, nat_lit 95, nat_lit 99, nat_lit 97, nat_lit 108, nat_lit 108, nat_lit 101, nat_lit 114, nat_lit 115]⟩⟩ := rfl
theorem t182 : Str.ofString "func" = ⟨⟨[nat_lit 102, nat_lit 117, nat_lit 110, nat_lit 99]⟩⟩ := rfl
theorem t183 : Str.ofString "caller" = ⟨⟨[nat_lit 99, nat_lit 97, nat_lit 108, nat_lit 108, nat_lit 101, nat_lit 114]⟩⟩ := rfl
theorem t184 : Str.ofString "items" = ⟨⟨[nat_lit 105, nat_lit 116, nat_lit 101, nat_lit 109, nat_lit 115]⟩⟩ := rfl
theorem t185 : Str.ofString "isinstance" = ⟨⟨[nat_lit 105, nat_lit 115, nat_lit 105, nat_lit 110, nat_lit 115, nat_lit 116, nat_lit 97, nat_lit 110, nat_lit 99, nat_lit 101]⟩⟩ := rfl
theorem t186 : Str.ofString "tuple" = ⟨⟨[nat_lit 116, nat_lit 117, nat_lit 112, nat_lit 108, nat_lit 101]⟩⟩ := rfl
theorem t187 : Str.ofString "i" = ⟨⟨[nat_lit 105]⟩⟩ := rfl
theorem t188 : Str.ofString "j" = ⟨⟨[nat_lit 106]⟩⟩ := rfl
theorem t189 : Str.ofString "zip" = ⟨⟨[nat_lit 122, nat_lit 105, nat_lit 112]⟩⟩ := rfl
theorem t190 : Str.ofString "calls" = ⟨⟨[nat_lit 99, nat_lit 97, nat_lit 108, nat_lit 108, nat_lit 115]⟩⟩ := rfl
theorem t191 : Str.ofString "values" = ⟨⟨[nat_lit 118, nat_lit 97, nat_lit 108, nat_lit 117, nat_lit 101, nat_lit 115]⟩⟩ := rfl
theorem t192 : Str.ofString "cpy313.token" = ⟨⟨[nat_lit 99, nat_lit 112, nat_lit 121, nat_lit 51, nat_lit 49, nat_lit 51, nat_lit 46, nat_lit 116, nat_lit 111, nat_lit 107, nat_lit 101, nat_lit 110]⟩⟩ := rfl
theorem t193 : Str.ofString "r" = ⟨⟨[nat_lit 114]⟩⟩ := rfl
theorem t194 : Str.ofString "g" = ⟨⟨[nat_lit 103]⟩⟩ := rfl
theorem t195 : Str.ofString "b" = ⟨⟨[nat_lit 98]⟩⟩ := rfl
theorem t196 : Str.ofString "maxc" = ⟨⟨[nat_lit 109, nat_lit 97, nat_lit 120, nat_lit 99]⟩⟩ := rfl
theorem t197 : Str.ofString "minc" = ⟨⟨[nat_lit 109, nat_lit 105, nat_lit 110, nat_lit 99]⟩⟩ := rfl
theorem t198 : Str.ofString "min" = ⟨⟨[nat_lit 109, nat_lit 105, nat_lit 110]⟩⟩ := rfl
theorem t199 : Str.ofString "rangec" = ⟨⟨[nat_lit 114, nat_lit 97, nat_lit 110, nat_lit 103, nat_lit 101, nat_lit 99]⟩⟩ := rfl
theorem t200 : Str.ofString "v" = ⟨⟨[nat_lit 118]⟩⟩ := rfl
theorem t201 : Str.ofString "s" = ⟨⟨[nat_lit 115]⟩⟩ := rfl
theorem t202 : Str.ofString "rc" = ⟨⟨[nat_lit 114, nat_lit 99]⟩⟩ := rfl
theorem t203 : Str.ofString "gc" = ⟨⟨[nat_lit 103, nat_lit 99]⟩⟩ := rfl
theorem t204 : Str.ofString "bc" = ⟨⟨[nat_lit 98, nat_lit 99]⟩⟩ := rfl
theorem t205 : Str.ofString "h" = ⟨⟨[nat_lit 104]⟩⟩ := rfl
theorem t206 : Str.ofString "cpy313.email.header" = ⟨⟨[nat_lit 99, nat_lit 112, nat_lit 121, nat_lit 51, nat_lit 49, nat_lit 51, nat_lit 46, nat_lit 101, nat_lit 109, nat_lit 97, nat_lit 105, nat_lit 108, nat_lit 46, nat_lit 104, nat_lit 101, nat_lit 97, nat_lit 100, nat_lit 101, nat_lit 114]⟩⟩ := rfl
theorem t207 : Str.ofString "EMPTYSTRING" = ⟨⟨[nat_lit 69, nat_lit 77, nat_lit 80, nat_lit 84, nat_lit 89, nat_lit 83, nat_lit 84, nat_lit 82, nat_lit 73, nat_lit 78, nat_lit 71]⟩⟩ := rfl
theorem t208 : Str.ofString "list" = ⟨⟨[nat_lit 108, nat_lit 105, nat_lit 115, nat_lit 116]⟩⟩ := rfl
theorem t209 : Str.ofString "__init__" = ⟨⟨[nat_lit 95, nat_lit 95, nat_lit 105, nat_lit 110, nat_lit 105, nat_lit 116, nat_lit 95, nat_lit 95]⟩⟩ := rfl
theorem t210 : Str.ofString "self" = ⟨⟨[nat_lit 115, nat_lit 101, nat_lit 108, nat_lit 102]⟩⟩ := rfl
theorem t211 : Str.ofString "initial_size" = ⟨⟨[nat_lit 105, nat_lit 110, nat_lit 105, nat_lit 116, nat_lit 105, nat_lit 97, nat_lit 108, nat_lit 95, nat_lit 115, nat_lit 105, nat_lit 122, nat_lit 101]⟩⟩ := rfl
theorem t212 : Str.ofString "_initial_size" = ⟨⟨[nat_lit 95, nat_lit 105, nat_lit 110, nat_lit 105, nat_lit 116, nat_lit 105, nat_lit 97, nat_lit 108, nat_lit 95, nat_lit 115, nat_lit 105, nat_lit 122, nat_lit 101]⟩⟩ := rfl
theorem t213 : Str.ofString "super" = ⟨⟨[nat_lit 115, nat_lit 117, nat_lit 112, nat_lit 101, nat_lit 114]⟩⟩ := rfl
theorem t214 : Str.ofString "__class__" = ⟨⟨[nat_lit 95, nat_lit 95, nat_lit 99, nat_lit 108, nat_lit 97, nat_lit 115, nat_lit 115, nat_lit 95, nat_lit 95]⟩⟩ := rfl
theorem t215 : Str.ofString "fws" = ⟨⟨[nat_lit 102, nat_lit 119, nat_lit 115]⟩⟩ := rfl
theorem t216 : Str.ofString "string" = ⟨⟨[nat_lit 115, nat_lit 116, nat_lit 114, nat_lit 105, nat_lit 110, nat_lit 103]⟩⟩ := rfl
theorem t217 : Str.ofString "popped" = ⟨⟨[nat_lit 112, nat_lit 111, nat_lit 112, nat_lit 112, nat_lit 101, nat_lit 100]⟩⟩ := rfl
theorem t218 : Str.ofString "__len__" = ⟨⟨[nat_lit 95, nat_lit 95, nat_lit 108, nat_lit 101, nat_lit 110, nat_lit 95, nat_lit 95]⟩⟩ := rfl
theorem t219 : Str.ofString "part" = ⟨⟨[nat_lit 112, nat_lit 97, nat_lit 114, nat_lit 116]⟩⟩ := rfl
theorem t220 : Str.ofString "__str__" = ⟨⟨[nat_lit 95, nat_lit 95, nat_lit 115, nat_lit 116, nat_lit 114, nat_lit 95, nat_lit 95]⟩⟩ := rfl
theorem t221 : Str.ofString "join" = ⟨⟨[nat_lit 106, nat_lit 111, nat_lit 105, nat_lit 110]⟩⟩ := rfl
theorem t222 : Str.ofString "reset" = ⟨⟨[nat_lit 114, nat_lit 101, nat_lit 115, nat_lit 101, nat_lit 116]⟩⟩ := rfl
theorem t223 : Str.ofString "startval" = ⟨⟨[nat_lit 115, nat_lit 116, nat_lit 97, nat_lit 114, nat_lit 116, nat_lit 118, nat_lit 97, nat_lit 108]⟩⟩ := rfl
theorem t224 : Str.ofString "_wall" = ⟨⟨[nat_lit 95, nat_lit 119, nat_lit 97, nat_lit 108, nat_lit 108]⟩⟩ := rfl
theorem t225 : Str.ofString "is_onlyws" = ⟨⟨[nat_lit 105, nat_lit 115, nat_lit 95, nat_lit 111, nat_lit 110, nat_lit 108, nat_lit 121, nat_lit 119, nat_lit 115]⟩⟩ := rfl
theorem t226 : Str.ofString "cpy313.pstats" = ⟨⟨[nat_lit 99, nat_lit 112, nat_lit 121, nat_lit 51, nat_lit 49, nat_lit 51, nat_lit 46, nat_lit 112, nat_lit 115, nat_lit 116, nat_lit 97, nat_lit 116, nat_lit 115]⟩⟩ := rfl
theorem t227 : Str.ofString "k" = ⟨⟨[nat_lit 107]⟩⟩ := rfl
theorem t228 : Str.ofString "cpy313.colorsys" = ⟨⟨[nat_lit 99, nat_lit 112, nat_lit 121, nat_lit 51, nat_lit 49, nat_lit 51, nat_lit 46, nat_lit 99, nat_lit 111, nat_lit 108, nat_lit 111, nat_lit 114, nat_lit 115, nat_lit 121, nat_lit 115]⟩⟩ := rfl
theorem t229 : Str.ofString "/claim/cut.py" = ⟨⟨[nat_lit 47, nat_lit 99, nat_lit 108, nat_lit 97, nat_lit 105, nat_lit 109, nat_lit 47, nat_lit 99, nat_lit 117, nat_lit 116, nat_lit 46, nat_lit 112, nat_lit 121]⟩⟩ := rfl
theorem t230 : Str.ofString "__doc__" = ⟨⟨[nat_lit 95, nat_lit 95, nat_lit 100, nat_lit 111, nat_lit 99, nat_lit 95, nat_lit 95]⟩⟩ := rfl
theorem t231 : Str.ofString "__package__" = ⟨⟨[nat_lit 95, nat_lit 95, nat_lit 112, nat_lit 97, nat_lit 99, nat_lit 107, nat_lit 97, nat_lit 103, nat_lit 101, nat_lit 95, nat_lit 95]⟩⟩ := rfl
theorem t232 : Str.ofString "__loader__" = ⟨⟨[nat_lit 95, nat_lit 95, nat_lit 108, nat_lit 111, nat_lit 97, nat_lit 100, nat_lit 101, nat_lit 114, nat_lit 95, nat_lit 95]⟩⟩ := rfl
theorem t233 : Str.ofString "__spec__" = ⟨⟨[nat_lit 95, nat_lit 95, nat_lit 115, nat_lit 112, nat_lit 101, nat_lit 99, nat_lit 95, nat_lit 95]⟩⟩ := rfl
theorem t234 : Str.ofString "__annotations__" = ⟨⟨[nat_lit 95, nat_lit 95, nat_lit 97, nat_lit 110, nat_lit 110, nat_lit 111, nat_lit 116, nat_lit 97, nat_lit 116, nat_lit 105, nat_lit 111, nat_lit 110, nat_lit 115, nat_lit 95, nat_lit 95]⟩⟩ := rfl
theorem t235 : Str.ofString "__builtins__" = ⟨⟨[nat_lit 95, nat_lit 95, nat_lit 98, nat_lit 117, nat_lit 105, nat_lit 108, nat_lit 116, nat_lit 105, nat_lit 110, nat_lit 115, nat_lit 95, nat_lit 95]⟩⟩ := rfl
theorem t236 : Str.ofString "__file__" = ⟨⟨[nat_lit 95, nat_lit 95, nat_lit 102, nat_lit 105, nat_lit 108, nat_lit 101, nat_lit 95, nat_lit 95]⟩⟩ := rfl
theorem t237 : Str.ofString "__cached__" = ⟨⟨[nat_lit 95, nat_lit 95, nat_lit 99, nat_lit 97, nat_lit 99, nat_lit 104, nat_lit 101, nat_lit 100, nat_lit 95, nat_lit 95]⟩⟩ := rfl
theorem t238 : Str.ofString "__module__" = ⟨⟨[nat_lit 95, nat_lit 95, nat_lit 109, nat_lit 111, nat_lit 100, nat_lit 117, nat_lit 108, nat_lit 101, nat_lit 95, nat_lit 95]⟩⟩ := rfl
theorem t239 : Str.ofString "__firstlineno__" = ⟨⟨[nat_lit 95, nat_lit 95, nat_lit 102, nat_lit 105, nat_lit 114, nat_lit 115, nat_lit 116, nat_lit 108, nat_lit 105, nat_lit 110, nat_lit 101, nat_lit 110, nat_lit 111, nat_lit 95, nat_lit 95]⟩⟩ := rfl
theorem t240 : Str.ofString "__static_attributes__" = ⟨⟨[nat_lit 95, nat_lit 95, nat_lit 115, nat_lit 116, nat_lit 97, nat_lit 116, nat_lit 105, nat_lit 99, nat_lit 95, nat_lit 97, nat_lit 116, nat_lit 116, nat_lit 114, nat_lit 105, nat_lit 98, nat_lit 117, nat_lit 116, nat_lit 101, nat_lit 115, nat_lit 95, nat_lit 95]⟩⟩ := rfl
theorem t241 : Str.ofString "__dict__" = ⟨⟨[nat_lit 95, nat_lit 95, nat_lit 100, nat_lit 105, nat_lit 99, nat_lit 116, nat_lit 95, nat_lit 95]⟩⟩ := rfl
theorem t242 : Str.ofString "__weakref__" = ⟨⟨[nat_lit 95, nat_lit 95, nat_lit 119, nat_lit 101, nat_lit 97, nat_lit 107, nat_lit 114, nat_lit 101, nat_lit 102, nat_lit 95, nat_lit 95]⟩⟩ := rfl
theorem t243 : Str.ofString "_Accumulator.__init__" = ⟨⟨[nat_lit 95, nat_lit 65, nat_lit 99, nat_lit 99, nat_lit 117, nat_lit 109, nat_lit 117, nat_lit 108, nat_lit 97, nat_lit 116, nat_lit 111, nat_lit 114, nat_lit 46, nat_lit 95, nat_lit 95, nat_lit 105, nat_lit 110, nat_lit 105, nat_lit 116, nat_lit 95, nat_lit 95]⟩⟩ := rfl
theorem t244 : Str.ofString "_Accumulator.push" = ⟨⟨[nat_lit 95, nat_lit 65, nat_lit 99, nat_lit 99, nat_lit 117, nat_lit 109, nat_lit 117, nat_lit 108, nat_lit 97, nat_lit 116, nat_lit 111, nat_lit 114, nat_lit 46, nat_lit 112, nat_lit 117, nat_lit 115, nat_lit 104]⟩⟩ := rfl
theorem t245 : Str.ofString "_Accumulator.pop_from" = ⟨⟨[nat_lit 95, nat_lit 65, nat_lit 99, nat_lit 99, nat_lit 117, nat_lit 109, nat_lit 117, nat_lit 108, nat_lit 97, nat_lit 116, nat_lit 111, nat_lit 114, nat_lit 46, nat_lit 112, nat_lit 111, nat_lit 112, nat_lit 95, nat_lit 102, nat_lit 114, nat_lit 111, nat_lit 109]⟩⟩ := rfl
theorem t246 : Str.ofString "_Accumulator.pop" = ⟨⟨[nat_lit 95, nat_lit 65, nat_lit 99, nat_lit 99, nat_lit 117, nat_lit 109, nat_lit 117, nat_lit 108, nat_lit 97, nat_lit 116, nat_lit 111, nat_lit 114, nat_lit 46, nat_lit 112, nat_lit 111, nat_lit 112]⟩⟩ := rfl
theorem t247 : Str.ofString "_Accumulator.__len__" = ⟨⟨[nat_lit 95, nat_lit 65, nat_lit 99, nat_lit 99, nat_lit 117, nat_lit 109, nat_lit 117, nat_lit 108, nat_lit 97, nat_lit 116, nat_lit 111, nat_lit 114, nat_lit 46, nat_lit 95, nat_lit 95, nat_lit 108, nat_lit 101, nat_lit 110, nat_lit 95, nat_lit 95]⟩⟩ := rfl
theorem t248 : Str.ofString "_Accumulator.__str__" = ⟨⟨[nat_lit 95, nat_lit 65, nat_lit 99, nat_lit 99, nat_lit 117, nat_lit 109, nat_lit 117, nat_lit 108, nat_lit 97, nat_lit 116, nat_lit 111, nat_lit 114, nat_lit 46, nat_lit 95, nat_lit 95, nat_lit 115, nat_lit 116, nat_lit 114, nat_lit 95, nat_lit 95]⟩⟩ := rfl
theorem t249 : Str.ofString "_Accumulator.part_count" = ⟨⟨[nat_lit 95, nat_lit 65, nat_lit 99, nat_lit 99, nat_lit 117, nat_lit 109, nat_lit 117, nat_lit 108, nat_lit 97, nat_lit 116, nat_lit 111, nat_lit 114, nat_lit 46, nat_lit 112, nat_lit 97, nat_lit 114, nat_lit 116, nat_lit 95, nat_lit 99, nat_lit 111, nat_lit 117, nat_lit 110, nat_lit 116]⟩⟩ := rfl
theorem t250 : Str.ofString "<module>" = ⟨⟨[nat_lit 60, nat_lit 109, nat_lit 111, nat_lit 100, nat_lit 117, nat_lit 108, nat_lit 101, nat_lit 62]⟩⟩ := rfl
theorem t251 : Str.ofString "__main__" = ⟨⟨[nat_lit 95, nat_lit 95, nat_lit 109, nat_lit 97, nat_lit 105, nat_lit 110, nat_lit 95, nat_lit 95]⟩⟩ := rfl
theorem t252 : Str.ofString "__qualname__" = ⟨⟨[nat_lit 95, nat_lit 95, nat_lit 113, nat_lit 117, nat_lit 97, nat_lit 108, nat_lit 110, nat_lit 97, nat_lit 109, nat_lit 101, nat_lit 95, nat_lit 95]⟩⟩ := rfl
theorem t253 : Str.ofString "__classcell__" = ⟨⟨[nat_lit 95, nat_lit 95, nat_lit 99, nat_lit 108, nat_lit 97, nat_lit 115, nat_lit 115, nat_lit 99, nat_lit 101, nat_lit 108, nat_lit 108, nat_lit 95, nat_lit 95]⟩⟩ := rfl
theorem t254 : Str.ofString "_Accumulator.reset" = ⟨⟨[nat_lit 95, nat_lit 65, nat_lit 99, nat_lit 99, nat_lit 117, nat_lit 109, nat_lit 117, nat_lit 108, nat_lit 97, nat_lit 116, nat_lit 111, nat_lit 114, nat_lit 46, nat_lit 114, nat_lit 101, nat_lit 115, nat_lit 101, nat_lit 116]⟩⟩ := rfl
theorem t255 : Str.ofString "_Accumulator.is_onlyws" = ⟨⟨[nat_lit 95, nat_lit 65, nat_lit 99, nat_lit 99, nat_lit 117, nat_lit 109, nat_lit 117, nat_lit 108, nat_lit 97, nat_lit 116, nat_lit 111, nat_lit 114, nat_lit 46, nat_lit 105, nat_lit 115, nat_lit 95, nat_lit 111, nat_lit 110, nat_lit 108, nat_lit 121, nat_lit 119, nat_lit 115]⟩⟩ := rfl
abbrev pw := PySem.Challenge.pw_xg0063_01
noncomputable def loose63 : List Str := [Str.ofString "ONE_THIRD", Str.ofString "ONE_SIXTH", Str.ofString "_Accumulator", Str.ofString "EXACT_TOKEN_TYPES"]
noncomputable def view63 : Program := by
  refine (fun (_ : PySem.Challenge.pw_xg0063_01 = (Program.mk (Module.mk (Stmt.FunctionDef ?nf0 ?af0 ?bf0 ?df0 ?rf0 ?tpf0 ?scf0 ?tsf0 ?bdf0 ?pf0 :: ?s1 :: ?s2 :: ?s3 :: Stmt.FunctionDef ?nf4 ?af4 ?bf4 ?df4 ?rf4 ?tpf4 ?scf4 ?tsf4 ?bdf4 ?pf4 :: ?s5 :: ?s6 :: Stmt.ClassDef ?cn ?cb ?ck [Stmt.FunctionDef ?nm0 ?am0 ?bm0 ?dm0 ?rm0 ?tpm0 ?scm0 ?tsm0 ?bdm0 ?pm0, Stmt.FunctionDef ?nm1 ?am1 ?bm1 ?dm1 ?rm1 ?tpm1 ?scm1 ?tsm1 ?bdm1 ?pm1, Stmt.FunctionDef ?nm2 ?am2 ?bm2 ?dm2 ?rm2 ?tpm2 ?scm2 ?tsm2 ?bdm2 ?pm2, Stmt.FunctionDef ?nm3 ?am3 ?bm3 ?dm3 ?rm3 ?tpm3 ?scm3 ?tsm3 ?bdm3 ?pm3, Stmt.FunctionDef ?nm4 ?am4 ?bm4 ?dm4 ?rm4 ?tpm4 ?scm4 ?tsm4 ?bdm4 ?pm4, Stmt.FunctionDef ?nm5 ?am5 ?bm5 ?dm5 ?rm5 ?tpm5 ?scm5 ?tsm5 ?bdm5 ?pm5, Stmt.FunctionDef ?nm6 ?am6 ?bm6 ?dm6 ?rm6 ?tpm6 ?scm6 ?tsm6 ?bdm6 ?pm6, Stmt.FunctionDef ?nm7 ?am7 ?bm7 ?dm7 ?rm7 ?tpm7 ?scm7 ?tsm7 ?bdm7 ?pm7, Stmt.FunctionDef ?nm8 ?am8 ?bm8 ?dm8 ?rm8 ?tpm8 ?scm8 ?tsm8 ?bdm8 ?pm8] ?cd ?ct ?cs ?cts ?cbd ?csa ?cp :: ?s8 :: Stmt.FunctionDef ?nf9 ?af9 ?bf9 ?df9 ?rf9 ?tpf9 ?scf9 ?tsf9 ?bdf9 ?pf9 :: Stmt.FunctionDef ?nf10 ?af10 ?bf10 ?df10 ?rf10 ?tpf10 ?scf10 ?tsf10 ?bdf10 ?pf10 :: Stmt.FunctionDef ?nf11 ?af11 ?bf11 ?df11 ?rf11 ?tpf11 ?scf11 ?tsf11 ?bdf11 ?pf11 :: ?s12 :: ?s13 :: ?s14 :: ?s15 :: ?s16 :: ?s17 :: ?s18 :: ?s19 :: ?s20 :: ?s21 :: ?s22 :: ?s23 :: ?s24 :: ?s25 :: ?s26 :: ?s27 :: ?s28 :: ?s29 :: ?s30 :: ?s31 :: ?s32 :: ?s33 :: ?s34 :: ?s35 :: ?s36 :: ?s37 :: ?s38 :: ?s39 :: ?s40 :: ?s41 :: ?s42 :: ?s43 :: ?s44 :: ?s45 :: ?s46 :: ?s47 :: ?s48 :: ?s49 :: ?s50 :: ?s51 :: ?s52 :: ?s53 :: ?s54 :: ?s55 :: ?s56 :: ?s57 :: ?s58 :: ?s59 :: ?s60 :: ?s61 :: ?s62 :: ?s63 :: Stmt.FunctionDef ?nf64 ?af64 ?bf64 ?df64 ?rf64 ?tpf64 ?scf64 ?tsf64 ?bdf64 ?pf64 :: Stmt.FunctionDef ?nf65 ?af65 ?bf65 ?df65 ?rf65 ?tpf65 ?scf65 ?tsf65 ?bdf65 ?pf65 :: Stmt.FunctionDef ?nf66 ?af66 ?bf66 ?df66 ?rf66 ?tpf66 ?scf66 ?tsf66 ?bdf66 ?pf66 :: ?s67 :: Stmt.FunctionDef ?nf68 ?af68 ?bf68 ?df68 ?rf68 ?tpf68 ?scf68 ?tsf68 ?bdf68 ?pf68 :: Stmt.FunctionDef ?nf69 ?af69 ?bf69 ?df69 ?rf69 ?tpf69 ?scf69 ?tsf69 ?bdf69 ?pf69 :: Stmt.FunctionDef ?nf70 ?af70 ?bf70 ?df70 ?rf70 ?tpf70 ?scf70 ?tsf70 ?bdf70 ?pf70 :: Stmt.FunctionDef ?nf71 ?af71 ?bf71 ?df71 ?rf71 ?tpf71 ?scf71 ?tsf71 ?bdf71 ?pf71 :: Stmt.FunctionDef ?nf72 ?af72 ?bf72 ?df72 ?rf72 ?tpf72 ?scf72 ?tsf72 ?bdf72 ?pf72 :: Stmt.FunctionDef ?nf73 ?af73 ?bf73 ?df73 ?rf73 ?tpf73 ?scf73 ?tsf73 ?bdf73 ?pf73 :: Stmt.FunctionDef ?nf74 ?af74 ?bf74 ?df74 ?rf74 ?tpf74 ?scf74 ?tsf74 ?bdf74 ?pf74 :: Stmt.FunctionDef ?nf75 ?af75 ?bf75 ?df75 ?rf75 ?tpf75 ?scf75 ?tsf75 ?bdf75 ?pf75 :: Stmt.FunctionDef ?nf76 ?af76 ?bf76 ?df76 ?rf76 ?tpf76 ?scf76 ?tsf76 ?bdf76 ?pf76 :: []) ?msc ?mfa ?mfi ?mmo) ?pmo ?ppa ?pab ?pha ?pgi : Program)) => (Program.mk (Module.mk (Stmt.FunctionDef ?nf0 ?af0 ?bf0 ?df0 ?rf0 ?tpf0 ?scf0 ?tsf0 ?bdf0 ?pf0 :: ?s2 :: ?s3 :: Stmt.FunctionDef ?nf4 ?af4 ?bf4 ?df4 ?rf4 ?tpf4 ?scf4 ?tsf4 ?bdf4 ?pf4 :: ?s6 :: Stmt.ClassDef ?cn ?cb ?ck [Stmt.FunctionDef ?nm0 ?am0 ?bm0 ?dm0 ?rm0 ?tpm0 ?scm0 ?tsm0 ?bdm0 ?pm0, Stmt.FunctionDef ?nm1 ?am1 ?bm1 ?dm1 ?rm1 ?tpm1 ?scm1 ?tsm1 ?bdm1 ?pm1, Stmt.FunctionDef ?nm2 ?am2 ?bm2 ?dm2 ?rm2 ?tpm2 ?scm2 ?tsm2 ?bdm2 ?pm2, Stmt.FunctionDef ?nm3 ?am3 ?bm3 ?dm3 ?rm3 ?tpm3 ?scm3 ?tsm3 ?bdm3 ?pm3, Stmt.FunctionDef ?nm4 ?am4 ?bm4 ?dm4 ?rm4 ?tpm4 ?scm4 ?tsm4 ?bdm4 ?pm4, Stmt.FunctionDef ?nm5 ?am5 ?bm5 ?dm5 ?rm5 ?tpm5 ?scm5 ?tsm5 ?bdm5 ?pm5, Stmt.FunctionDef ?nm6 ?am6 ?bm6 ?dm6 ?rm6 ?tpm6 ?scm6 ?tsm6 ?bdm6 ?pm6, Stmt.FunctionDef ?nm7 ?am7 ?bm7 ?dm7 ?rm7 ?tpm7 ?scm7 ?tsm7 ?bdm7 ?pm7, Stmt.FunctionDef ?nm8 ?am8 ?bm8 ?dm8 ?rm8 ?tpm8 ?scm8 ?tsm8 ?bdm8 ?pm8] ?cd ?ct ?cs ?cts ?cbd ?csa ?cp :: Stmt.FunctionDef ?nf9 ?af9 ?bf9 ?df9 ?rf9 ?tpf9 ?scf9 ?tsf9 ?bdf9 ?pf9 :: Stmt.FunctionDef ?nf10 ?af10 ?bf10 ?df10 ?rf10 ?tpf10 ?scf10 ?tsf10 ?bdf10 ?pf10 :: Stmt.FunctionDef ?nf11 ?af11 ?bf11 ?df11 ?rf11 ?tpf11 ?scf11 ?tsf11 ?bdf11 ?pf11 :: ?s13 :: ?s14 :: ?s15 :: ?s16 :: ?s17 :: ?s18 :: ?s19 :: ?s20 :: ?s21 :: ?s22 :: ?s23 :: ?s24 :: ?s25 :: ?s26 :: ?s27 :: ?s28 :: ?s29 :: ?s30 :: ?s31 :: ?s32 :: ?s33 :: ?s34 :: ?s35 :: ?s36 :: ?s37 :: ?s38 :: ?s39 :: ?s40 :: ?s41 :: ?s42 :: ?s43 :: ?s44 :: ?s45 :: ?s46 :: ?s47 :: ?s48 :: ?s49 :: ?s50 :: ?s51 :: ?s52 :: ?s53 :: ?s54 :: ?s55 :: ?s56 :: ?s57 :: ?s58 :: ?s59 :: ?s60 :: ?s61 :: ?s62 :: ?s63 :: Stmt.FunctionDef ?nf64 ?af64 ?bf64 ?df64 ?rf64 ?tpf64 ?scf64 ?tsf64 ?bdf64 ?pf64 :: Stmt.FunctionDef ?nf65 ?af65 ?bf65 ?df65 ?rf65 ?tpf65 ?scf65 ?tsf65 ?bdf65 ?pf65 :: Stmt.FunctionDef ?nf66 ?af66 ?bf66 ?df66 ?rf66 ?tpf66 ?scf66 ?tsf66 ?bdf66 ?pf66 :: Stmt.FunctionDef ?nf68 ?af68 ?bf68 ?df68 ?rf68 ?tpf68 ?scf68 ?tsf68 ?bdf68 ?pf68 :: Stmt.FunctionDef ?nf69 ?af69 ?bf69 ?df69 ?rf69 ?tpf69 ?scf69 ?tsf69 ?bdf69 ?pf69 :: Stmt.FunctionDef ?nf70 ?af70 ?bf70 ?df70 ?rf70 ?tpf70 ?scf70 ?tsf70 ?bdf70 ?pf70 :: Stmt.FunctionDef ?nf71 ?af71 ?bf71 ?df71 ?rf71 ?tpf71 ?scf71 ?tsf71 ?bdf71 ?pf71 :: Stmt.FunctionDef ?nf72 ?af72 ?bf72 ?df72 ?rf72 ?tpf72 ?scf72 ?tsf72 ?bdf72 ?pf72 :: Stmt.FunctionDef ?nf73 ?af73 ?bf73 ?df73 ?rf73 ?tpf73 ?scf73 ?tsf73 ?bdf73 ?pf73 :: Stmt.FunctionDef ?nf74 ?af74 ?bf74 ?df74 ?rf74 ?tpf74 ?scf74 ?tsf74 ?bdf74 ?pf74 :: Stmt.FunctionDef ?nf75 ?af75 ?bf75 ?df75 ?rf75 ?tpf75 ?scf75 ?tsf75 ?bdf75 ?pf75 :: Stmt.FunctionDef ?nf76 ?af76 ?bf76 ?df76 ?rf76 ?tpf76 ?scf76 ?tsf76 ?bdf76 ?pf76 :: []) ?msc ?mfa ?mfi ?mmo) ?pmo ?ppa ?pab ?pha ?pgi : Program)) ?h
  case h => exact rfl
noncomputable def K63 (P : Params) : Frag := by
  refine (fun (_ : PySem.Challenge.pw_xg0063_01 = (Program.mk (Module.mk (Stmt.FunctionDef ?nf0 ?af0 ?bf0 ?df0 ?rf0 ?tpf0 ?scf0 ?tsf0 ?bdf0 ?pf0 :: ?s1 :: ?s2 :: ?s3 :: Stmt.FunctionDef ?nf4 ?af4 ?bf4 ?df4 ?rf4 ?tpf4 ?scf4 ?tsf4 ?bdf4 ?pf4 :: ?s5 :: ?s6 :: Stmt.ClassDef ?cn ?cb ?ck [Stmt.FunctionDef ?nm0 ?am0 ?bm0 ?dm0 ?rm0 ?tpm0 ?scm0 ?tsm0 ?bdm0 ?pm0, Stmt.FunctionDef ?nm1 ?am1 ?bm1 ?dm1 ?rm1 ?tpm1 ?scm1 ?tsm1 ?bdm1 ?pm1, Stmt.FunctionDef ?nm2 ?am2 ?bm2 ?dm2 ?rm2 ?tpm2 ?scm2 ?tsm2 ?bdm2 ?pm2, Stmt.FunctionDef ?nm3 ?am3 ?bm3 ?dm3 ?rm3 ?tpm3 ?scm3 ?tsm3 ?bdm3 ?pm3, Stmt.FunctionDef ?nm4 ?am4 ?bm4 ?dm4 ?rm4 ?tpm4 ?scm4 ?tsm4 ?bdm4 ?pm4, Stmt.FunctionDef ?nm5 ?am5 ?bm5 ?dm5 ?rm5 ?tpm5 ?scm5 ?tsm5 ?bdm5 ?pm5, Stmt.FunctionDef ?nm6 ?am6 ?bm6 ?dm6 ?rm6 ?tpm6 ?scm6 ?tsm6 ?bdm6 ?pm6, Stmt.FunctionDef ?nm7 ?am7 ?bm7 ?dm7 ?rm7 ?tpm7 ?scm7 ?tsm7 ?bdm7 ?pm7, Stmt.FunctionDef ?nm8 ?am8 ?bm8 ?dm8 ?rm8 ?tpm8 ?scm8 ?tsm8 ?bdm8 ?pm8] ?cd ?ct ?cs ?cts ?cbd ?csa ?cp :: ?s8 :: Stmt.FunctionDef ?nf9 ?af9 ?bf9 ?df9 ?rf9 ?tpf9 ?scf9 ?tsf9 ?bdf9 ?pf9 :: Stmt.FunctionDef ?nf10 ?af10 ?bf10 ?df10 ?rf10 ?tpf10 ?scf10 ?tsf10 ?bdf10 ?pf10 :: Stmt.FunctionDef ?nf11 ?af11 ?bf11 ?df11 ?rf11 ?tpf11 ?scf11 ?tsf11 ?bdf11 ?pf11 :: ?s12 :: ?s13 :: ?s14 :: ?s15 :: ?s16 :: ?s17 :: ?s18 :: ?s19 :: ?s20 :: ?s21 :: ?s22 :: ?s23 :: ?s24 :: ?s25 :: ?s26 :: ?s27 :: ?s28 :: ?s29 :: ?s30 :: ?s31 :: ?s32 :: ?s33 :: ?s34 :: ?s35 :: ?s36 :: ?s37 :: ?s38 :: ?s39 :: ?s40 :: ?s41 :: ?s42 :: ?s43 :: ?s44 :: ?s45 :: ?s46 :: ?s47 :: ?s48 :: ?s49 :: ?s50 :: ?s51 :: ?s52 :: ?s53 :: ?s54 :: ?s55 :: ?s56 :: ?s57 :: ?s58 :: ?s59 :: ?s60 :: ?s61 :: ?s62 :: ?s63 :: Stmt.FunctionDef ?nf64 ?af64 ?bf64 ?df64 ?rf64 ?tpf64 ?scf64 ?tsf64 ?bdf64 ?pf64 :: Stmt.FunctionDef ?nf65 ?af65 ?bf65 ?df65 ?rf65 ?tpf65 ?scf65 ?tsf65 ?bdf65 ?pf65 :: Stmt.FunctionDef ?nf66 ?af66 ?bf66 ?df66 ?rf66 ?tpf66 ?scf66 ?tsf66 ?bdf66 ?pf66 :: ?s67 :: Stmt.FunctionDef ?nf68 ?af68 ?bf68 ?df68 ?rf68 ?tpf68 ?scf68 ?tsf68 ?bdf68 ?pf68 :: Stmt.FunctionDef ?nf69 ?af69 ?bf69 ?df69 ?rf69 ?tpf69 ?scf69 ?tsf69 ?bdf69 ?pf69 :: Stmt.FunctionDef ?nf70 ?af70 ?bf70 ?df70 ?rf70 ?tpf70 ?scf70 ?tsf70 ?bdf70 ?pf70 :: Stmt.FunctionDef ?nf71 ?af71 ?bf71 ?df71 ?rf71 ?tpf71 ?scf71 ?tsf71 ?bdf71 ?pf71 :: Stmt.FunctionDef ?nf72 ?af72 ?bf72 ?df72 ?rf72 ?tpf72 ?scf72 ?tsf72 ?bdf72 ?pf72 :: Stmt.FunctionDef ?nf73 ?af73 ?bf73 ?df73 ?rf73 ?tpf73 ?scf73 ?tsf73 ?bdf73 ?pf73 :: Stmt.FunctionDef ?nf74 ?af74 ?bf74 ?df74 ?rf74 ?tpf74 ?scf74 ?tsf74 ?bdf74 ?pf74 :: Stmt.FunctionDef ?nf75 ?af75 ?bf75 ?df75 ?rf75 ?tpf75 ?scf75 ?tsf75 ?bdf75 ?pf75 :: Stmt.FunctionDef ?nf76 ?af76 ?bf76 ?df76 ?rf76 ?tpf76 ?scf76 ?tsf76 ?bdf76 ?pf76 :: []) ?msc ?mfa ?mfi ?mmo) ?pmo ?ppa ?pab ?pha ?pgi : Program)) => (
    (nat_lit 2, ({ cls := Value.none, data := Data.dict #[] } : Obj)) ::
    (nat_lit 3, ({ cls := Value.type "dict", data := Data.dict (List.toArray ({ hash := PyData.keyHash P (Str.ofString "__name__"), key := Value.str (Str.ofString "__name__") 165, val := Value.str (Str.ofString "law_xg0063_01") 582 } :: { hash := PyData.keyHash P (Str.ofString "__doc__"), key := Value.str (Str.ofString "__doc__") 166, val := Value.none } :: { hash := PyData.keyHash P (Str.ofString "__package__"), key := Value.str (Str.ofString "__package__") 167, val := Value.none } :: { hash := PyData.keyHash P (Str.ofString "__loader__"), key := Value.str (Str.ofString "__loader__") 168, val := Value.builtin "__main__.__loader__#opaque" } :: { hash := PyData.keyHash P (Str.ofString "__spec__"), key := Value.str (Str.ofString "__spec__") 169, val := Value.none } :: { hash := PyData.keyHash P (Str.ofString "__annotations__"), key := Value.str (Str.ofString "__annotations__") 170, val := Value.ref 6 } :: { hash := PyData.keyHash P (Str.ofString "__builtins__"), key := Value.str (Str.ofString "__builtins__") 171, val := Value.ref 4 } :: { hash := PyData.keyHash P (Str.ofString "__file__"), key := Value.str (Str.ofString "__file__") 173, val := Value.str (Str.ofString "/claim/cut.py") 172 } :: { hash := PyData.keyHash P (Str.ofString "__cached__"), key := Value.str (Str.ofString "__cached__") 174, val := Value.none } :: { hash := PyData.keyHash P (Str.ofString "_wall"), key := Value.str (Str.ofString "_wall") 193, val := Value.ref 21 } :: { hash := PyData.keyHash P (Str.ofString "ONE_THIRD"), key := Value.str (Str.ofString "ONE_THIRD") 199, val := Value.float 4599676419421066581 198 } :: { hash := PyData.keyHash P (Str.ofString "ONE_SIXTH"), key := Value.str (Str.ofString "ONE_SIXTH") 203, val := Value.float 4595172819793696085 202 } :: { hash := PyData.keyHash P (Str.ofString "rgb_to_hsv"), key := Value.str (Str.ofString "rgb_to_hsv") 221, val := Value.ref 28 } :: { hash := PyData.keyHash P (Str.ofString "EMPTYSTRING"), key := Value.str (Str.ofString "EMPTYSTRING") 225, val := Value.str (Str.ofString "") 224 } :: { hash := PyData.keyHash P (Str.ofString "_Accumulator"), key := Value.str (Str.ofString "_Accumulator") 321, val := Value.ref 108 } :: { hash := PyData.keyHash P (Str.ofString "add_func_stats"), key := Value.str (Str.ofString "add_func_stats") 341, val := Value.ref 119 } :: { hash := PyData.keyHash P (Str.ofString "add_callers"), key := Value.str (Str.ofString "add_callers") 352, val := Value.ref 126 } :: { hash := PyData.keyHash P (Str.ofString "count_calls"), key := Value.str (Str.ofString "count_calls") 361, val := Value.ref 133 } :: { hash := PyData.keyHash P (Str.ofString "ENDMARKER"), key := Value.str (Str.ofString "ENDMARKER") 365, val := Value.int 0 364 } :: { hash := PyData.keyHash P (Str.ofString "LPAR"), key := Value.str (Str.ofString "LPAR") 367, val := Value.int 7 366 } :: { hash := PyData.keyHash P (Str.ofString "RPAR"), key := Value.str (Str.ofString "RPAR") 369, val := Value.int 8 368 } :: { hash := PyData.keyHash P (Str.ofString "LSQB"), key := Value.str (Str.ofString "LSQB") 371, val := Value.int 9 370 } :: { hash := PyData.keyHash P (Str.ofString "RSQB"), key := Value.str (Str.ofString "RSQB") 373, val := Value.int 10 372 } :: { hash := PyData.keyHash P (Str.ofString "COLON"), key := Value.str (Str.ofString "COLON") 375, val := Value.int 11 374 } :: { hash := PyData.keyHash P (Str.ofString "COMMA"), key := Value.str (Str.ofString "COMMA") 377, val := Value.int 12 376 } :: { hash := PyData.keyHash P (Str.ofString "SEMI"), key := Value.str (Str.ofString "SEMI") 379, val := Value.int 13 378 } :: { hash := PyData.keyHash P (Str.ofString "PLUS"), key := Value.str (Str.ofString "PLUS") 381, val := Value.int 14 380 } :: { hash := PyData.keyHash P (Str.ofString "MINUS"), key := Value.str (Str.ofString "MINUS") 383, val := Value.int 15 382 } :: { hash := PyData.keyHash P (Str.ofString "STAR"), key := Value.str (Str.ofString "STAR") 385, val := Value.int 16 384 } :: { hash := PyData.keyHash P (Str.ofString "SLASH"), key := Value.str (Str.ofString "SLASH") 387, val := Value.int 17 386 } :: { hash := PyData.keyHash P (Str.ofString "VBAR"), key := Value.str (Str.ofString "VBAR") 389, val := Value.int 18 388 } :: { hash := PyData.keyHash P (Str.ofString "AMPER"), key := Value.str (Str.ofString "AMPER") 391, val := Value.int 19 390 } :: { hash := PyData.keyHash P (Str.ofString "LESS"), key := Value.str (Str.ofString "LESS") 393, val := Value.int 20 392 } :: { hash := PyData.keyHash P (Str.ofString "GREATER"), key := Value.str (Str.ofString "GREATER") 395, val := Value.int 21 394 } :: { hash := PyData.keyHash P (Str.ofString "EQUAL"), key := Value.str (Str.ofString "EQUAL") 397, val := Value.int 22 396 } :: { hash := PyData.keyHash P (Str.ofString "DOT"), key := Value.str (Str.ofString "DOT") 399, val := Value.int 23 398 } :: { hash := PyData.keyHash P (Str.ofString "PERCENT"), key := Value.str (Str.ofString "PERCENT") 401, val := Value.int 24 400 } :: { hash := PyData.keyHash P (Str.ofString "LBRACE"), key := Value.str (Str.ofString "LBRACE") 403, val := Value.int 25 402 } :: { hash := PyData.keyHash P (Str.ofString "RBRACE"), key := Value.str (Str.ofString "RBRACE") 405, val := Value.int 26 404 } :: { hash := PyData.keyHash P (Str.ofString "EQEQUAL"), key := Value.str (Str.ofString "EQEQUAL") 407, val := Value.int 27 406 } :: { hash := PyData.keyHash P (Str.ofString "NOTEQUAL"), key := Value.str (Str.ofString "NOTEQUAL") 409, val := Value.int 28 408 } :: { hash := PyData.keyHash P (Str.ofString "LESSEQUAL"), key := Value.str (Str.ofString "LESSEQUAL") 411, val := Value.int 29 410 } :: { hash := PyData.keyHash P (Str.ofString "GREATEREQUAL"), key := Value.str (Str.ofString "GREATEREQUAL") 413, val := Value.int 30 412 } :: { hash := PyData.keyHash P (Str.ofString "TILDE"), key := Value.str (Str.ofString "TILDE") 415, val := Value.int 31 414 } :: { hash := PyData.keyHash P (Str.ofString "CIRCUMFLEX"), key := Value.str (Str.ofString "CIRCUMFLEX") 417, val := Value.int 32 416 } :: { hash := PyData.keyHash P (Str.ofString "LEFTSHIFT"), key := Value.str (Str.ofString "LEFTSHIFT") 419, val := Value.int 33 418 } :: { hash := PyData.keyHash P (Str.ofString "RIGHTSHIFT"), key := Value.str (Str.ofString "RIGHTSHIFT") 421, val := Value.int 34 420 } :: { hash := PyData.keyHash P (Str.ofString "DOUBLESTAR"), key := Value.str (Str.ofString "DOUBLESTAR") 423, val := Value.int 35 422 } :: { hash := PyData.keyHash P (Str.ofString "PLUSEQUAL"), key := Value.str (Str.ofString "PLUSEQUAL") 425, val := Value.int 36 424 } :: { hash := PyData.keyHash P (Str.ofString "MINEQUAL"), key := Value.str (Str.ofString "MINEQUAL") 427, val := Value.int 37 426 } :: { hash := PyData.keyHash P (Str.ofString "STAREQUAL"), key := Value.str (Str.ofString "STAREQUAL") 429, val := Value.int 38 428 } :: { hash := PyData.keyHash P (Str.ofString "SLASHEQUAL"), key := Value.str (Str.ofString "SLASHEQUAL") 431, val := Value.int 39 430 } :: { hash := PyData.keyHash P (Str.ofString "PERCENTEQUAL"), key := Value.str (Str.ofString "PERCENTEQUAL") 433, val := Value.int 40 432 } :: { hash := PyData.keyHash P (Str.ofString "AMPEREQUAL"), key := Value.str (Str.ofString "AMPEREQUAL") 435, val := Value.int 41 434 } :: { hash := PyData.keyHash P (Str.ofString "VBAREQUAL"), key := Value.str (Str.ofString "VBAREQUAL") 437, val := Value.int 42 436 } :: { hash := PyData.keyHash P (Str.ofString "CIRCUMFLEXEQUAL"), key := Value.str (Str.ofString "CIRCUMFLEXEQUAL") 439, val := Value.int 43 438 } :: { hash := PyData.keyHash P (Str.ofString "LEFTSHIFTEQUAL"), key := Value.str (Str.ofString "LEFTSHIFTEQUAL") 441, val := Value.int 44 440 } :: { hash := PyData.keyHash P (Str.ofString "RIGHTSHIFTEQUAL"), key := Value.str (Str.ofString "RIGHTSHIFTEQUAL") 443, val := Value.int 45 442 } :: { hash := PyData.keyHash P (Str.ofString "DOUBLESTAREQUAL"), key := Value.str (Str.ofString "DOUBLESTAREQUAL") 445, val := Value.int 46 444 } :: { hash := PyData.keyHash P (Str.ofString "DOUBLESLASH"), key := Value.str (Str.ofString "DOUBLESLASH") 447, val := Value.int 47 446 } :: { hash := PyData.keyHash P (Str.ofString "DOUBLESLASHEQUAL"), key := Value.str (Str.ofString "DOUBLESLASHEQUAL") 449, val := Value.int 48 448 } :: { hash := PyData.keyHash P (Str.ofString "AT"), key := Value.str (Str.ofString "AT") 451, val := Value.int 49 450 } :: { hash := PyData.keyHash P (Str.ofString "ATEQUAL"), key := Value.str (Str.ofString "ATEQUAL") 453, val := Value.int 50 452 } :: { hash := PyData.keyHash P (Str.ofString "RARROW"), key := Value.str (Str.ofString "RARROW") 455, val := Value.int 51 454 } :: { hash := PyData.keyHash P (Str.ofString "ELLIPSIS"), key := Value.str (Str.ofString "ELLIPSIS") 457, val := Value.int 52 456 } :: { hash := PyData.keyHash P (Str.ofString "COLONEQUAL"), key := Value.str (Str.ofString "COLONEQUAL") 459, val := Value.int 53 458 } :: { hash := PyData.keyHash P (Str.ofString "EXCLAMATION"), key := Value.str (Str.ofString "EXCLAMATION") 461, val := Value.int 54 460 } :: { hash := PyData.keyHash P (Str.ofString "NT_OFFSET"), key := Value.str (Str.ofString "NT_OFFSET") 463, val := Value.int 256 462 } :: { hash := PyData.keyHash P (Str.ofString "EXACT_TOKEN_TYPES"), key := Value.str (Str.ofString "EXACT_TOKEN_TYPES") 560, val := Value.ref 134 } :: { hash := PyData.keyHash P (Str.ofString "ISTERMINAL"), key := Value.str (Str.ofString "ISTERMINAL") 567, val := Value.ref 143 } :: { hash := PyData.keyHash P (Str.ofString "ISNONTERMINAL"), key := Value.str (Str.ofString "ISNONTERMINAL") 574, val := Value.ref 150 } :: { hash := PyData.keyHash P (Str.ofString "ISEOF"), key := Value.str (Str.ofString "ISEOF") 581, val := Value.ref 157 } :: { hash := PyData.keyHash P (Str.ofString "_law_row"), key := Value.str (Str.ofString "_law_row") 592, val := Value.ref 164 } :: { hash := PyData.keyHash P (Str.ofString "_law_left"), key := Value.str (Str.ofString "_law_left") 601, val := Value.ref 171 } :: { hash := PyData.keyHash P (Str.ofString "_law_light"), key := Value.str (Str.ofString "_law_light") 612, val := Value.ref 178 } :: { hash := PyData.keyHash P (Str.ofString "_law_entries"), key := Value.str (Str.ofString "_law_entries") 627, val := Value.ref 185 } :: { hash := PyData.keyHash P (Str.ofString "_law_owed"), key := Value.str (Str.ofString "_law_owed") 633, val := Value.ref 190 } :: { hash := PyData.keyHash P (Str.ofString "_law_turned"), key := Value.str (Str.ofString "_law_turned") 643, val := Value.ref 197 } :: { hash := PyData.keyHash P (Str.ofString "_law_run"), key := Value.str (Str.ofString "_law_run") 658, val := Value.ref 204 } :: { hash := PyData.keyHash P (Str.ofString "_law_told"), key := Value.str (Str.ofString "_law_told") 664, val := Value.ref 209 } :: { hash := PyData.keyHash P (Str.ofString "law"), key := Value.str (Str.ofString "law") 670, val := Value.ref 214 } :: [])) 81 } : Obj)) ::
    (nat_lit 27, ({ cls := .type "code", data := .fields (List.toArray ((Value.str (Str.ofString "rgb_to_hsv") 204) :: (Value.str (Str.ofString "rgb_to_hsv") 205) :: (Value.str (Str.ofString "/claim/cut.py") 206) :: (Value.int 7 0) :: (Value.int 3 0) :: (Value.int 0 0) :: (Value.int 0 0) :: (Value.int 3 0) :: (Value.ref 22) :: (Value.bool true) :: (Value.int 181 0) :: (Value.ref 23) :: (Value.none) :: (Value.ref 24) :: (Value.ref 25) :: (Value.ref 26) :: (Value.int 219 0) :: (Value.int 7 0) :: (Value.str (Str.ofString "/claim/cut.py") 220) :: [])) } : Obj)) ::
    (nat_lit 28, ({ cls := .type "function", data := .func { name := ?nf4, qualname := (Str.ofString "rgb_to_hsv"), params := ?af4, body := .stmts ?bf4, scope := ?scf4, globals := 3, closure := [], defaults := Value.none, kwdefaults := .none, pyModule := .str (Str.ofString "cpy313.colorsys") 194, code := .ref 27, closureTuple := Value.none } } : Obj)) ::
    (nat_lit 29, ({ cls := Value.type "tuple", data := Data.seq #[Value.type "list"] } : Obj)) ::
    (nat_lit 32, ({ cls := Value.type "cell", data := Data.cell (some (Value.ref 108)) } : Obj)) ::
    (nat_lit 37, ({ cls := Value.type "tuple", data := Data.seq #[Value.int 0 238] } : Obj)) ::
    (nat_lit 38, ({ cls := Value.type "tuple", data := Data.seq #[Value.ref 32] } : Obj)) ::
    (nat_lit 44, ({ cls := .type "code", data := .fields (List.toArray ((Value.str (Str.ofString "__init__") 239) :: (Value.str (Str.ofString "_Accumulator.__init__") 240) :: (Value.str (Str.ofString "/claim/cut.py") 241) :: (Value.int 30 0) :: (Value.int 2 0) :: (Value.int 0 0) :: (Value.int 0 0) :: (Value.int 3 0) :: (Value.ref 39) :: (Value.bool true) :: (Value.int 181 0) :: (Value.ref 40) :: (Value.none) :: (Value.ref 41) :: (Value.ref 42) :: (Value.ref 43) :: (Value.int 245 0) :: (Value.int 30 0) :: (Value.str (Str.ofString "/claim/cut.py") 246) :: [])) } : Obj)) ::
    (nat_lit 45, ({ cls := .type "function", data := .func { name := ?nm0, qualname := (Str.ofString "_Accumulator.__init__"), params := ?am0, body := .stmts ?bm0, scope := ?scm0, globals := 3, closure := [(Str.ofString "__class__", 32)], defaults := Value.ref 37, kwdefaults := .none, pyModule := .str (Str.ofString "cpy313.email.header") 222, code := .ref 44, closureTuple := Value.ref 38 } } : Obj)) ::
    (nat_lit 51, ({ cls := .type "code", data := .fields (List.toArray ((Value.str (Str.ofString "push") 248) :: (Value.str (Str.ofString "_Accumulator.push") 249) :: (Value.str (Str.ofString "/claim/cut.py") 250) :: (Value.int 34 0) :: (Value.int 3 0) :: (Value.int 0 0) :: (Value.int 0 0) :: (Value.int 3 0) :: (Value.ref 46) :: (Value.bool true) :: (Value.int 181 0) :: (Value.ref 47) :: (Value.none) :: (Value.ref 48) :: (Value.ref 49) :: (Value.ref 50) :: (Value.int 254 0) :: (Value.int 34 0) :: (Value.str (Str.ofString "/claim/cut.py") 255) :: [])) } : Obj)) ::
    (nat_lit 52, ({ cls := .type "function", data := .func { name := ?nm1, qualname := (Str.ofString "_Accumulator.push"), params := ?am1, body := .stmts ?bm1, scope := ?scm1, globals := 3, closure := [], defaults := Value.none, kwdefaults := .none, pyModule := .str (Str.ofString "cpy313.email.header") 222, code := .ref 51, closureTuple := Value.none } } : Obj)) ::
    (nat_lit 53, ({ cls := Value.type "tuple", data := Data.seq #[Value.int 0 257] } : Obj)) ::
    (nat_lit 59, ({ cls := .type "code", data := .fields (List.toArray ((Value.str (Str.ofString "pop_from") 258) :: (Value.str (Str.ofString "_Accumulator.pop_from") 259) :: (Value.str (Str.ofString "/claim/cut.py") 260) :: (Value.int 37 0) :: (Value.int 2 0) :: (Value.int 0 0) :: (Value.int 0 0) :: (Value.int 3 0) :: (Value.ref 54) :: (Value.bool true) :: (Value.int 181 0) :: (Value.ref 55) :: (Value.none) :: (Value.ref 56) :: (Value.ref 57) :: (Value.ref 58) :: (Value.int 264 0) :: (Value.int 37 0) :: (Value.str (Str.ofString "/claim/cut.py") 265) :: [])) } : Obj)) ::
    (nat_lit 60, ({ cls := .type "function", data := .func { name := ?nm2, qualname := (Str.ofString "_Accumulator.pop_from"), params := ?am2, body := .stmts ?bm2, scope := ?scm2, globals := 3, closure := [], defaults := Value.ref 53, kwdefaults := .none, pyModule := .str (Str.ofString "cpy313.email.header") 222, code := .ref 59, closureTuple := Value.none } } : Obj)) ::
    (nat_lit 61, ({ cls := Value.type "tuple", data := Data.seq #[Value.ref 32] } : Obj)) ::
    (nat_lit 67, ({ cls := .type "code", data := .fields (List.toArray ((Value.str (Str.ofString "pop") 267) :: (Value.str (Str.ofString "_Accumulator.pop") 268) :: (Value.str (Str.ofString "/claim/cut.py") 269) :: (Value.int 42 0) :: (Value.int 1 0) :: (Value.int 0 0) :: (Value.int 0 0) :: (Value.int 3 0) :: (Value.ref 62) :: (Value.bool true) :: (Value.int 181 0) :: (Value.ref 63) :: (Value.none) :: (Value.ref 64) :: (Value.ref 65) :: (Value.ref 66) :: (Value.int 272 0) :: (Value.int 42 0) :: (Value.str (Str.ofString "/claim/cut.py") 273) :: [])) } : Obj)) ::
    (nat_lit 68, ({ cls := .type "function", data := .func { name := ?nm3, qualname := (Str.ofString "_Accumulator.pop"), params := ?am3, body := .stmts ?bm3, scope := ?scm3, globals := 3, closure := [(Str.ofString "__class__", 32)], defaults := Value.none, kwdefaults := .none, pyModule := .str (Str.ofString "cpy313.email.header") 222, code := .ref 67, closureTuple := Value.ref 61 } } : Obj)) ::
    (nat_lit 74, ({ cls := .type "code", data := .fields (List.toArray ((Value.str (Str.ofString "__len__") 275) :: (Value.str (Str.ofString "_Accumulator.__len__") 276) :: (Value.str (Str.ofString "/claim/cut.py") 277) :: (Value.int 47 0) :: (Value.int 1 0) :: (Value.int 0 0) :: (Value.int 0 0) :: (Value.int 3 0) :: (Value.ref 69) :: (Value.bool true) :: (Value.int 181 0) :: (Value.ref 70) :: (Value.none) :: (Value.ref 71) :: (Value.ref 72) :: (Value.ref 73) :: (Value.int 279 0) :: (Value.int 47 0) :: (Value.str (Str.ofString "/claim/cut.py") 280) :: [])) } : Obj)) ::
    (nat_lit 75, ({ cls := .type "function", data := .func { name := ?nm4, qualname := (Str.ofString "_Accumulator.__len__"), params := ?am4, body := .stmts ?bm4, scope := ?scm4, globals := 3, closure := [], defaults := Value.none, kwdefaults := .none, pyModule := .str (Str.ofString "cpy313.email.header") 222, code := .ref 74, closureTuple := Value.none } } : Obj)) ::
    (nat_lit 81, ({ cls := .type "code", data := .fields (List.toArray ((Value.str (Str.ofString "__str__") 282) :: (Value.str (Str.ofString "_Accumulator.__str__") 283) :: (Value.str (Str.ofString "/claim/cut.py") 284) :: (Value.int 50 0) :: (Value.int 1 0) :: (Value.int 0 0) :: (Value.int 0 0) :: (Value.int 3 0) :: (Value.ref 76) :: (Value.bool true) :: (Value.int 181 0) :: (Value.ref 77) :: (Value.none) :: (Value.ref 78) :: (Value.ref 79) :: (Value.ref 80) :: (Value.int 286 0) :: (Value.int 50 0) :: (Value.str (Str.ofString "/claim/cut.py") 287) :: [])) } : Obj)) ::
    (nat_lit 82, ({ cls := .type "function", data := .func { name := ?nm5, qualname := (Str.ofString "_Accumulator.__str__"), params := ?am5, body := .stmts ?bm5, scope := ?scm5, globals := 3, closure := [], defaults := Value.none, kwdefaults := .none, pyModule := .str (Str.ofString "cpy313.email.header") 222, code := .ref 81, closureTuple := Value.none } } : Obj)) ::
    (nat_lit 98, ({ cls := Value.type "tuple", data := Data.seq #[Value.ref 32] } : Obj)) ::
    (nat_lit 104, ({ cls := .type "code", data := .fields (List.toArray ((Value.str (Str.ofString "part_count") 304) :: (Value.str (Str.ofString "_Accumulator.part_count") 305) :: (Value.str (Str.ofString "/claim/cut.py") 306) :: (Value.int 59 0) :: (Value.int 1 0) :: (Value.int 0 0) :: (Value.int 0 0) :: (Value.int 3 0) :: (Value.ref 99) :: (Value.bool true) :: (Value.int 181 0) :: (Value.ref 100) :: (Value.none) :: (Value.ref 101) :: (Value.ref 102) :: (Value.ref 103) :: (Value.int 309 0) :: (Value.int 59 0) :: (Value.str (Str.ofString "/claim/cut.py") 310) :: [])) } : Obj)) ::
    (nat_lit 105, ({ cls := .type "function", data := .func { name := ?nm8, qualname := (Str.ofString "_Accumulator.part_count"), params := ?am8, body := .stmts ?bm8, scope := ?scm8, globals := 3, closure := [(Str.ofString "__class__", 32)], defaults := Value.none, kwdefaults := .none, pyModule := .str (Str.ofString "cpy313.email.header") 222, code := .ref 104, closureTuple := Value.ref 98 } } : Obj)) ::
    (nat_lit 106, ({ cls := Value.type "tuple", data := Data.seq #[Value.str (Str.ofString "_initial_size") 312] } : Obj)) ::
    (nat_lit 107, ({ cls := Value.type "dict", data := Data.dict (List.toArray ({ hash := PyData.keyHash P (Str.ofString "__module__"), key := Value.str (Str.ofString "__module__") 233, val := Value.str (Str.ofString "cpy313.email.header") 222 } :: { hash := PyData.keyHash P (Str.ofString "__firstlineno__"), key := Value.str (Str.ofString "__firstlineno__") 237, val := Value.int 28 236 } :: { hash := PyData.keyHash P (Str.ofString "__init__"), key := Value.str (Str.ofString "__init__") 247, val := Value.ref 45 } :: { hash := PyData.keyHash P (Str.ofString "push"), key := Value.str (Str.ofString "push") 256, val := Value.ref 52 } :: { hash := PyData.keyHash P (Str.ofString "pop_from"), key := Value.str (Str.ofString "pop_from") 266, val := Value.ref 60 } :: { hash := PyData.keyHash P (Str.ofString "pop"), key := Value.str (Str.ofString "pop") 274, val := Value.ref 68 } :: { hash := PyData.keyHash P (Str.ofString "__len__"), key := Value.str (Str.ofString "__len__") 281, val := Value.ref 75 } :: { hash := PyData.keyHash P (Str.ofString "__str__"), key := Value.str (Str.ofString "__str__") 288, val := Value.ref 82 } :: { hash := PyData.keyHash P (Str.ofString "reset"), key := Value.str (Str.ofString "reset") 296, val := Value.ref 90 } :: { hash := PyData.keyHash P (Str.ofString "is_onlyws"), key := Value.str (Str.ofString "is_onlyws") 303, val := Value.ref 97 } :: { hash := PyData.keyHash P (Str.ofString "part_count"), key := Value.str (Str.ofString "part_count") 311, val := Value.ref 105 } :: { hash := PyData.keyHash P (Str.ofString "__static_attributes__"), key := Value.str (Str.ofString "__static_attributes__") 313, val := Value.ref 106 } :: { hash := PyData.keyHash P (Str.ofString "__dict__"), key := Value.str (Str.ofString "__dict__") 316, val := Value.ref 109 } :: { hash := PyData.keyHash P (Str.ofString "__weakref__"), key := Value.str (Str.ofString "__weakref__") 318, val := Value.ref 110 } :: { hash := PyData.keyHash P (Str.ofString "__doc__"), key := Value.str (Str.ofString "__doc__") 319, val := Value.none } :: [])) 5 } : Obj)) ::
    (nat_lit 108, ({ cls := Value.type "type", data := Data.cls { name := Str.ofString "_Accumulator", bases := [Value.type "list"], mro := [Value.ref 108, Value.type "list", Value.type "object"], ns := 107, qualname := Str.ofString "_Accumulator" }, slots := #[some (Value.ref 29), none, some (Value.str (Str.ofString "_Accumulator") 226), some (Value.str (Str.ofString "_Accumulator") 234), some (Value.builtin "list.__new__"), some (Value.bool true)] } : Obj)) ::
    (nat_lit 109, ({ cls := Value.type "getset_descriptor", data := Data.fields #[Value.str (Str.ofString "__dict__") 315, Value.ref 108, Value.builtin "function.__dict__", Value.builtin "function.__dict__#set"] } : Obj)) ::
    (nat_lit 110, ({ cls := Value.type "getset_descriptor", data := Data.fields #[Value.str (Str.ofString "__weakref__") 317, Value.ref 108, Value.builtin "ExceptionGroup.__weakref__", Value.none] } : Obj)) ::
    (nat_lit 118, ({ cls := .type "code", data := .fields (List.toArray ((Value.str (Str.ofString "add_func_stats") 324) :: (Value.str (Str.ofString "add_func_stats") 325) :: (Value.str (Str.ofString "/claim/cut.py") 326) :: (Value.int 62 0) :: (Value.int 2 0) :: (Value.int 0 0) :: (Value.int 0 0) :: (Value.int 3 0) :: (Value.ref 113) :: (Value.bool true) :: (Value.int 181 0) :: (Value.ref 114) :: (Value.none) :: (Value.ref 115) :: (Value.ref 116) :: (Value.ref 117) :: (Value.int 339 0) :: (Value.int 62 0) :: (Value.str (Str.ofString "/claim/cut.py") 340) :: [])) } : Obj)) ::
    (nat_lit 119, ({ cls := .type "function", data := .func { name := ?nf9, qualname := (Str.ofString "add_func_stats"), params := ?af9, body := .stmts ?bf9, scope := ?scf9, globals := 3, closure := [], defaults := Value.none, kwdefaults := .none, pyModule := .str (Str.ofString "cpy313.pstats") 322, code := .ref 118, closureTuple := Value.none } } : Obj)) ::
    (nat_lit 125, ({ cls := .type "code", data := .fields (List.toArray ((Value.str (Str.ofString "add_callers") 342) :: (Value.str (Str.ofString "add_callers") 343) :: (Value.str (Str.ofString "/claim/cut.py") 344) :: (Value.int 66 0) :: (Value.int 2 0) :: (Value.int 0 0) :: (Value.int 0 0) :: (Value.int 3 0) :: (Value.ref 120) :: (Value.bool true) :: (Value.int 181 0) :: (Value.ref 121) :: (Value.none) :: (Value.ref 122) :: (Value.ref 123) :: (Value.ref 124) :: (Value.int 350 0) :: (Value.int 66 0) :: (Value.str (Str.ofString "/claim/cut.py") 351) :: [])) } : Obj)) ::
    (nat_lit 126, ({ cls := .type "function", data := .func { name := ?nf10, qualname := (Str.ofString "add_callers"), params := ?af10, body := .stmts ?bf10, scope := ?scf10, globals := 3, closure := [], defaults := Value.none, kwdefaults := .none, pyModule := .str (Str.ofString "cpy313.pstats") 322, code := .ref 125, closureTuple := Value.none } } : Obj)) ::
    (nat_lit 132, ({ cls := .type "code", data := .fields (List.toArray ((Value.str (Str.ofString "count_calls") 353) :: (Value.str (Str.ofString "count_calls") 354) :: (Value.str (Str.ofString "/claim/cut.py") 355) :: (Value.int 79 0) :: (Value.int 1 0) :: (Value.int 0 0) :: (Value.int 0 0) :: (Value.int 3 0) :: (Value.ref 127) :: (Value.bool true) :: (Value.int 181 0) :: (Value.ref 128) :: (Value.none) :: (Value.ref 129) :: (Value.ref 130) :: (Value.ref 131) :: (Value.int 359 0) :: (Value.int 79 0) :: (Value.str (Str.ofString "/claim/cut.py") 360) :: [])) } : Obj)) ::
    (nat_lit 133, ({ cls := .type "function", data := .func { name := ?nf11, qualname := (Str.ofString "count_calls"), params := ?af11, body := .stmts ?bf11, scope := ?scf11, globals := 3, closure := [], defaults := Value.none, kwdefaults := .none, pyModule := .str (Str.ofString "cpy313.pstats") 322, code := .ref 132, closureTuple := Value.none } } : Obj)) ::
    (nat_lit 134, ({ cls := Value.type "dict", data := Data.dict (List.toArray ({ hash := PyData.keyHash P (Str.ofString "!"), key := Value.str (Str.ofString "!") 464, val := Value.int 54 460 } :: { hash := PyData.keyHash P (Str.ofString "!="), key := Value.str (Str.ofString "!=") 466, val := Value.int 28 408 } :: { hash := PyData.keyHash P (Str.ofString "%"), key := Value.str (Str.ofString "%") 468, val := Value.int 24 400 } :: { hash := PyData.keyHash P (Str.ofString "%="), key := Value.str (Str.ofString "%=") 470, val := Value.int 40 432 } :: { hash := PyData.keyHash P (Str.ofString "&"), key := Value.str (Str.ofString "&") 472, val := Value.int 19 390 } :: { hash := PyData.keyHash P (Str.ofString "&="), key := Value.str (Str.ofString "&=") 474, val := Value.int 41 434 } :: { hash := PyData.keyHash P (Str.ofString "("), key := Value.str (Str.ofString "(") 476, val := Value.int 7 366 } :: { hash := PyData.keyHash P (Str.ofString ")"), key := Value.str (Str.ofString ")") 478, val := Value.int 8 368 } :: { hash := PyData.keyHash P (Str.ofString "*"), key := Value.str (Str.ofString "*") 480, val := Value.int 16 384 } :: { hash := PyData.keyHash P (Str.ofString "**"), key := Value.str (Str.ofString "**") 482, val := Value.int 35 422 } :: { hash := PyData.keyHash P (Str.ofString "**="), key := Value.str (Str.ofString "**=") 484, val := Value.int 46 444 } :: { hash := PyData.keyHash P (Str.ofString "*="), key := Value.str (Str.ofString "*=") 486, val := Value.int 38 428 } :: { hash := PyData.keyHash P (Str.ofString "+"), key := Value.str (Str.ofString "+") 488, val := Value.int 14 380 } :: { hash := PyData.keyHash P (Str.ofString "+="), key := Value.str (Str.ofString "+=") 490, val := Value.int 36 424 } :: { hash := PyData.keyHash P (Str.ofString ","), key := Value.str (Str.ofString ",") 492, val := Value.int 12 376 } :: { hash := PyData.keyHash P (Str.ofString "-"), key := Value.str (Str.ofString "-") 494, val := Value.int 15 382 } :: { hash := PyData.keyHash P (Str.ofString "-="), key := Value.str (Str.ofString "-=") 496, val := Value.int 37 426 } :: { hash := PyData.keyHash P (Str.ofString "->"), key := Value.str (Str.ofString "->") 498, val := Value.int 51 454 } :: { hash := PyData.keyHash P (Str.ofString "."), key := Value.str (Str.ofString ".") 500, val := Value.int 23 398 } :: { hash := PyData.keyHash P (Str.ofString "..."), key := Value.str (Str.ofString "...") 502, val := Value.int 52 456 } :: { hash := PyData.keyHash P (Str.ofString "/"), key := Value.str (Str.ofString "/") 504, val := Value.int 17 386 } :: { hash := PyData.keyHash P (Str.ofString "//"), key := Value.str (Str.ofString "//") 506, val := Value.int 47 446 } :: { hash := PyData.keyHash P (Str.ofString "//="), key := Value.str (Str.ofString "//=") 508, val := Value.int 48 448 } :: { hash := PyData.keyHash P (Str.ofString "/="), key := Value.str (Str.ofString "/=") 510, val := Value.int 39 430 } :: { hash := PyData.keyHash P (Str.ofString ":"), key := Value.str (Str.ofString ":") 512, val := Value.int 11 374 } :: { hash := PyData.keyHash P (Str.ofString ":="), key := Value.str (Str.ofString ":=") 514, val := Value.int 53 458 } :: { hash := PyData.keyHash P (Str.ofString ";"), key := Value.str (Str.ofString ";") 516, val := Value.int 13 378 } :: { hash := PyData.keyHash P (Str.ofString "<"), key := Value.str (Str.ofString "<") 518, val := Value.int 20 392 } :: { hash := PyData.keyHash P (Str.ofString "<<"), key := Value.str (Str.ofString "<<") 520, val := Value.int 33 418 } :: { hash := PyData.keyHash P (Str.ofString "<<="), key := Value.str (Str.ofString "<<=") 522, val := Value.int 44 440 } :: { hash := PyData.keyHash P (Str.ofString "<="), key := Value.str (Str.ofString "<=") 524, val := Value.int 29 410 } :: { hash := PyData.keyHash P (Str.ofString "="), key := Value.str (Str.ofString "=") 526, val := Value.int 22 396 } :: { hash := PyData.keyHash P (Str.ofString "=="), key := Value.str (Str.ofString "==") 528, val := Value.int 27 406 } :: { hash := PyData.keyHash P (Str.ofString ">"), key := Value.str (Str.ofString ">") 530, val := Value.int 21 394 } :: { hash := PyData.keyHash P (Str.ofString ">="), key := Value.str (Str.ofString ">=") 532, val := Value.int 30 412 } :: { hash := PyData.keyHash P (Str.ofString ">>"), key := Value.str (Str.ofString ">>") 533, val := Value.int 34 420 } :: { hash := PyData.keyHash P (Str.ofString ">>="), key := Value.str (Str.ofString ">>=") 534, val := Value.int 45 442 } :: { hash := PyData.keyHash P (Str.ofString "@"), key := Value.str (Str.ofString "@") 535, val := Value.int 49 450 } :: { hash := PyData.keyHash P (Str.ofString "@="), key := Value.str (Str.ofString "@=") 536, val := Value.int 50 452 } :: { hash := PyData.keyHash P (Str.ofString "["), key := Value.str (Str.ofString "[") 537, val := Value.int 9 370 } :: { hash := PyData.keyHash P (Str.ofString "]"), key := Value.str (Str.ofString "]") 538, val := Value.int 10 372 } :: { hash := PyData.keyHash P (Str.ofString "^"), key := Value.str (Str.ofString "^") 539, val := Value.int 32 416 } :: { hash := PyData.keyHash P (Str.ofString "^="), key := Value.str (Str.ofString "^=") 540, val := Value.int 43 438 } :: { hash := PyData.keyHash P (Str.ofString "{"), key := Value.str (Str.ofString "{") 541, val := Value.int 25 402 } :: { hash := PyData.keyHash P (Str.ofString "|"), key := Value.str (Str.ofString "|") 542, val := Value.int 18 388 } :: { hash := PyData.keyHash P (Str.ofString "|="), key := Value.str (Str.ofString "|=") 543, val := Value.int 42 436 } :: { hash := PyData.keyHash P (Str.ofString "}"), key := Value.str (Str.ofString "}") 544, val := Value.int 26 404 } :: { hash := PyData.keyHash P (Str.ofString "~"), key := Value.str (Str.ofString "~") 545, val := Value.int 31 414 } :: [])) 48 } : Obj)) ::
    (nat_lit 142, ({ cls := .type "code", data := .fields (List.toArray ((Value.str (Str.ofString "ISTERMINAL") 561) :: (Value.str (Str.ofString "ISTERMINAL") 562) :: (Value.str (Str.ofString "/claim/cut.py") 563) :: (Value.int 136 0) :: (Value.int 1 0) :: (Value.int 0 0) :: (Value.int 0 0) :: (Value.int 3 0) :: (Value.ref 137) :: (Value.bool true) :: (Value.int 181 0) :: (Value.ref 138) :: (Value.none) :: (Value.ref 139) :: (Value.ref 140) :: (Value.ref 141) :: (Value.int 565 0) :: (Value.int 136 0) :: (Value.str (Str.ofString "/claim/cut.py") 566) :: [])) } : Obj)) ::
    (nat_lit 143, ({ cls := .type "function", data := .func { name := ?nf64, qualname := (Str.ofString "ISTERMINAL"), params := ?af64, body := .stmts ?bf64, scope := ?scf64, globals := 3, closure := [], defaults := Value.none, kwdefaults := .none, pyModule := .str (Str.ofString "cpy313.token") 362, code := .ref 142, closureTuple := Value.none } } : Obj)) ::
    (nat_lit 149, ({ cls := .type "code", data := .fields (List.toArray ((Value.str (Str.ofString "ISNONTERMINAL") 568) :: (Value.str (Str.ofString "ISNONTERMINAL") 569) :: (Value.str (Str.ofString "/claim/cut.py") 570) :: (Value.int 138 0) :: (Value.int 1 0) :: (Value.int 0 0) :: (Value.int 0 0) :: (Value.int 3 0) :: (Value.ref 144) :: (Value.bool true) :: (Value.int 181 0) :: (Value.ref 145) :: (Value.none) :: (Value.ref 146) :: (Value.ref 147) :: (Value.ref 148) :: (Value.int 572 0) :: (Value.int 138 0) :: (Value.str (Str.ofString "/claim/cut.py") 573) :: [])) } : Obj)) ::
    (nat_lit 150, ({ cls := .type "function", data := .func { name := ?nf65, qualname := (Str.ofString "ISNONTERMINAL"), params := ?af65, body := .stmts ?bf65, scope := ?scf65, globals := 3, closure := [], defaults := Value.none, kwdefaults := .none, pyModule := .str (Str.ofString "cpy313.token") 362, code := .ref 149, closureTuple := Value.none } } : Obj)) ::
    (nat_lit 156, ({ cls := .type "code", data := .fields (List.toArray ((Value.str (Str.ofString "ISEOF") 575) :: (Value.str (Str.ofString "ISEOF") 576) :: (Value.str (Str.ofString "/claim/cut.py") 577) :: (Value.int 140 0) :: (Value.int 1 0) :: (Value.int 0 0) :: (Value.int 0 0) :: (Value.int 3 0) :: (Value.ref 151) :: (Value.bool true) :: (Value.int 181 0) :: (Value.ref 152) :: (Value.none) :: (Value.ref 153) :: (Value.ref 154) :: (Value.ref 155) :: (Value.int 579 0) :: (Value.int 140 0) :: (Value.str (Str.ofString "/claim/cut.py") 580) :: [])) } : Obj)) ::
    (nat_lit 157, ({ cls := .type "function", data := .func { name := ?nf66, qualname := (Str.ofString "ISEOF"), params := ?af66, body := .stmts ?bf66, scope := ?scf66, globals := 3, closure := [], defaults := Value.none, kwdefaults := .none, pyModule := .str (Str.ofString "cpy313.token") 362, code := .ref 156, closureTuple := Value.none } } : Obj)) ::
    (nat_lit 163, ({ cls := .type "code", data := .fields (List.toArray ((Value.str (Str.ofString "_law_row") 584) :: (Value.str (Str.ofString "_law_row") 585) :: (Value.str (Str.ofString "/claim/cut.py") 586) :: (Value.int 143 0) :: (Value.int 1 0) :: (Value.int 0 0) :: (Value.int 0 0) :: (Value.int 3 0) :: (Value.ref 158) :: (Value.bool true) :: (Value.int 181 0) :: (Value.ref 159) :: (Value.none) :: (Value.ref 160) :: (Value.ref 161) :: (Value.ref 162) :: (Value.int 590 0) :: (Value.int 143 0) :: (Value.str (Str.ofString "/claim/cut.py") 591) :: [])) } : Obj)) ::
    (nat_lit 164, ({ cls := .type "function", data := .func { name := ?nf68, qualname := (Str.ofString "_law_row"), params := ?af68, body := .stmts ?bf68, scope := ?scf68, globals := 3, closure := [], defaults := Value.none, kwdefaults := .none, pyModule := .str (Str.ofString "law_xg0063_01") 582, code := .ref 163, closureTuple := Value.none } } : Obj)) ::
    (nat_lit 170, ({ cls := .type "code", data := .fields (List.toArray ((Value.str (Str.ofString "_law_left") 593) :: (Value.str (Str.ofString "_law_left") 594) :: (Value.str (Str.ofString "/claim/cut.py") 595) :: (Value.int 151 0) :: (Value.int 1 0) :: (Value.int 0 0) :: (Value.int 0 0) :: (Value.int 3 0) :: (Value.ref 165) :: (Value.bool true) :: (Value.int 181 0) :: (Value.ref 166) :: (Value.none) :: (Value.ref 167) :: (Value.ref 168) :: (Value.ref 169) :: (Value.int 599 0) :: (Value.int 151 0) :: (Value.str (Str.ofString "/claim/cut.py") 600) :: [])) } : Obj)) ::
    (nat_lit 171, ({ cls := .type "function", data := .func { name := ?nf69, qualname := (Str.ofString "_law_left"), params := ?af69, body := .stmts ?bf69, scope := ?scf69, globals := 3, closure := [], defaults := Value.none, kwdefaults := .none, pyModule := .str (Str.ofString "law_xg0063_01") 582, code := .ref 170, closureTuple := Value.none } } : Obj)) ::
    (nat_lit 177, ({ cls := .type "code", data := .fields (List.toArray ((Value.str (Str.ofString "_law_light") 602) :: (Value.str (Str.ofString "_law_light") 603) :: (Value.str (Str.ofString "/claim/cut.py") 604) :: (Value.int 159 0) :: (Value.int 2 0) :: (Value.int 0 0) :: (Value.int 0 0) :: (Value.int 3 0) :: (Value.ref 172) :: (Value.bool true) :: (Value.int 181 0) :: (Value.ref 173) :: (Value.none) :: (Value.ref 174) :: (Value.ref 175) :: (Value.ref 176) :: (Value.int 610 0) :: (Value.int 159 0) :: (Value.str (Str.ofString "/claim/cut.py") 611) :: [])) } : Obj)) ::
    (nat_lit 178, ({ cls := .type "function", data := .func { name := ?nf70, qualname := (Str.ofString "_law_light"), params := ?af70, body := .stmts ?bf70, scope := ?scf70, globals := 3, closure := [], defaults := Value.none, kwdefaults := .none, pyModule := .str (Str.ofString "law_xg0063_01") 582, code := .ref 177, closureTuple := Value.none } } : Obj)) ::
    (nat_lit 184, ({ cls := .type "code", data := .fields (List.toArray ((Value.str (Str.ofString "_law_entries") 613) :: (Value.str (Str.ofString "_law_entries") 614) :: (Value.str (Str.ofString "/claim/cut.py") 615) :: (Value.int 165 0) :: (Value.int 2 0) :: (Value.int 0 0) :: (Value.int 0 0) :: (Value.int 3 0) :: (Value.ref 179) :: (Value.bool true) :: (Value.int 181 0) :: (Value.ref 180) :: (Value.none) :: (Value.ref 181) :: (Value.ref 182) :: (Value.ref 183) :: (Value.int 625 0) :: (Value.int 165 0) :: (Value.str (Str.ofString "/claim/cut.py") 626) :: [])) } : Obj)) ::
    (nat_lit 185, ({ cls := .type "function", data := .func { name := ?nf71, qualname := (Str.ofString "_law_entries"), params := ?af71, body := .stmts ?bf71, scope := ?scf71, globals := 3, closure := [], defaults := Value.none, kwdefaults := .none, pyModule := .str (Str.ofString "law_xg0063_01") 582, code := .ref 184, closureTuple := Value.none } } : Obj)) ::
    (nat_lit 189, ({ cls := .type "code", data := .fields (List.toArray ((Value.str (Str.ofString "_law_owed") 628) :: (Value.str (Str.ofString "_law_owed") 629) :: (Value.str (Str.ofString "/claim/cut.py") 630) :: (Value.int 175 0) :: (Value.int 1 0) :: (Value.int 0 0) :: (Value.int 0 0) :: (Value.int 3 0) :: (Value.ref 186) :: (Value.bool true) :: (Value.int 181 0) :: (Value.ref 187) :: (Value.none) :: (Value.none) :: (Value.none) :: (Value.ref 188) :: (Value.int 631 0) :: (Value.int 175 0) :: (Value.str (Str.ofString "/claim/cut.py") 632) :: [])) } : Obj)) ::
    (nat_lit 190, ({ cls := .type "function", data := .func { name := ?nf72, qualname := (Str.ofString "_law_owed"), params := ?af72, body := .stmts ?bf72, scope := ?scf72, globals := 3, closure := [], defaults := Value.none, kwdefaults := .none, pyModule := .str (Str.ofString "law_xg0063_01") 582, code := .ref 189, closureTuple := Value.none } } : Obj)) ::
    (nat_lit 196, ({ cls := .type "code", data := .fields (List.toArray ((Value.str (Str.ofString "_law_turned") 634) :: (Value.str (Str.ofString "_law_turned") 635) :: (Value.str (Str.ofString "/claim/cut.py") 636) :: (Value.int 178 0) :: (Value.int 2 0) :: (Value.int 0 0) :: (Value.int 0 0) :: (Value.int 3 0) :: (Value.ref 191) :: (Value.bool true) :: (Value.int 181 0) :: (Value.ref 192) :: (Value.none) :: (Value.ref 193) :: (Value.ref 194) :: (Value.ref 195) :: (Value.int 641 0) :: (Value.int 178 0) :: (Value.str (Str.ofString "/claim/cut.py") 642) :: [])) } : Obj)) ::
    (nat_lit 197, ({ cls := .type "function", data := .func { name := ?nf73, qualname := (Str.ofString "_law_turned"), params := ?af73, body := .stmts ?bf73, scope := ?scf73, globals := 3, closure := [], defaults := Value.none, kwdefaults := .none, pyModule := .str (Str.ofString "law_xg0063_01") 582, code := .ref 196, closureTuple := Value.none } } : Obj)) ::
    (nat_lit 203, ({ cls := .type "code", data := .fields (List.toArray ((Value.str (Str.ofString "_law_run") 644) :: (Value.str (Str.ofString "_law_run") 645) :: (Value.str (Str.ofString "/claim/cut.py") 646) :: (Value.int 182 0) :: (Value.int 2 0) :: (Value.int 0 0) :: (Value.int 0 0) :: (Value.int 3 0) :: (Value.ref 198) :: (Value.bool true) :: (Value.int 181 0) :: (Value.ref 199) :: (Value.none) :: (Value.ref 200) :: (Value.ref 201) :: (Value.ref 202) :: (Value.int 656 0) :: (Value.int 182 0) :: (Value.str (Str.ofString "/claim/cut.py") 657) :: [])) } : Obj)) ::
    (nat_lit 204, ({ cls := .type "function", data := .func { name := ?nf74, qualname := (Str.ofString "_law_run"), params := ?af74, body := .stmts ?bf74, scope := ?scf74, globals := 3, closure := [], defaults := Value.none, kwdefaults := .none, pyModule := .str (Str.ofString "law_xg0063_01") 582, code := .ref 203, closureTuple := Value.none } } : Obj)) ::
    (nat_lit 208, ({ cls := .type "code", data := .fields (List.toArray ((Value.str (Str.ofString "_law_told") 659) :: (Value.str (Str.ofString "_law_told") 660) :: (Value.str (Str.ofString "/claim/cut.py") 661) :: (Value.int 201 0) :: (Value.int 1 0) :: (Value.int 0 0) :: (Value.int 0 0) :: (Value.int 3 0) :: (Value.ref 205) :: (Value.bool true) :: (Value.int 181 0) :: (Value.ref 206) :: (Value.none) :: (Value.none) :: (Value.none) :: (Value.ref 207) :: (Value.int 662 0) :: (Value.int 201 0) :: (Value.str (Str.ofString "/claim/cut.py") 663) :: [])) } : Obj)) ::
    (nat_lit 209, ({ cls := .type "function", data := .func { name := ?nf75, qualname := (Str.ofString "_law_told"), params := ?af75, body := .stmts ?bf75, scope := ?scf75, globals := 3, closure := [], defaults := Value.none, kwdefaults := .none, pyModule := .str (Str.ofString "law_xg0063_01") 582, code := .ref 208, closureTuple := Value.none } } : Obj)) ::
    (nat_lit 213, ({ cls := .type "code", data := .fields (List.toArray ((Value.str (Str.ofString "law") 665) :: (Value.str (Str.ofString "law") 666) :: (Value.str (Str.ofString "/claim/cut.py") 667) :: (Value.int 218 0) :: (Value.int 1 0) :: (Value.int 0 0) :: (Value.int 0 0) :: (Value.int 3 0) :: (Value.ref 210) :: (Value.bool true) :: (Value.int 181 0) :: (Value.ref 211) :: (Value.none) :: (Value.none) :: (Value.none) :: (Value.ref 212) :: (Value.int 668 0) :: (Value.int 218 0) :: (Value.str (Str.ofString "/claim/cut.py") 669) :: [])) } : Obj)) ::
    (nat_lit 214, ({ cls := .type "function", data := .func { name := ?nf76, qualname := (Str.ofString "law"), params := ?af76, body := .stmts ?bf76, scope := ?scf76, globals := 3, closure := [], defaults := Value.none, kwdefaults := .none, pyModule := .str (Str.ofString "law_xg0063_01") 582, code := .ref 213, closureTuple := Value.none } } : Obj))
    :: [] : Frag)) ?h
  case h => exact rfl
/-- the heap behind the top, object by object -/
noncomputable def objs63 (P : Params) : List Obj := by
  refine (fun (_ : PySem.Challenge.pw_xg0063_01 = (Program.mk (Module.mk (Stmt.FunctionDef ?nf0 ?af0 ?bf0 ?df0 ?rf0 ?tpf0 ?scf0 ?tsf0 ?bdf0 ?pf0 :: ?s1 :: ?s2 :: ?s3 :: Stmt.FunctionDef ?nf4 ?af4 ?bf4 ?df4 ?rf4 ?tpf4 ?scf4 ?tsf4 ?bdf4 ?pf4 :: ?s5 :: ?s6 :: Stmt.ClassDef ?cn ?cb ?ck [Stmt.FunctionDef ?nm0 ?am0 ?bm0 ?dm0 ?rm0 ?tpm0 ?scm0 ?tsm0 ?bdm0 ?pm0, Stmt.FunctionDef ?nm1 ?am1 ?bm1 ?dm1 ?rm1 ?tpm1 ?scm1 ?tsm1 ?bdm1 ?pm1, Stmt.FunctionDef ?nm2 ?am2 ?bm2 ?dm2 ?rm2 ?tpm2 ?scm2 ?tsm2 ?bdm2 ?pm2, Stmt.FunctionDef ?nm3 ?am3 ?bm3 ?dm3 ?rm3 ?tpm3 ?scm3 ?tsm3 ?bdm3 ?pm3, Stmt.FunctionDef ?nm4 ?am4 ?bm4 ?dm4 ?rm4 ?tpm4 ?scm4 ?tsm4 ?bdm4 ?pm4, Stmt.FunctionDef ?nm5 ?am5 ?bm5 ?dm5 ?rm5 ?tpm5 ?scm5 ?tsm5 ?bdm5 ?pm5, Stmt.FunctionDef ?nm6 ?am6 ?bm6 ?dm6 ?rm6 ?tpm6 ?scm6 ?tsm6 ?bdm6 ?pm6, Stmt.FunctionDef ?nm7 ?am7 ?bm7 ?dm7 ?rm7 ?tpm7 ?scm7 ?tsm7 ?bdm7 ?pm7, Stmt.FunctionDef ?nm8 ?am8 ?bm8 ?dm8 ?rm8 ?tpm8 ?scm8 ?tsm8 ?bdm8 ?pm8] ?cd ?ct ?cs ?cts ?cbd ?csa ?cp :: ?s8 :: Stmt.FunctionDef ?nf9 ?af9 ?bf9 ?df9 ?rf9 ?tpf9 ?scf9 ?tsf9 ?bdf9 ?pf9 :: Stmt.FunctionDef ?nf10 ?af10 ?bf10 ?df10 ?rf10 ?tpf10 ?scf10 ?tsf10 ?bdf10 ?pf10 :: Stmt.FunctionDef ?nf11 ?af11 ?bf11 ?df11 ?rf11 ?tpf11 ?scf11 ?tsf11 ?bdf11 ?pf11 :: ?s12 :: ?s13 :: ?s14 :: ?s15 :: ?s16 :: ?s17 :: ?s18 :: ?s19 :: ?s20 :: ?s21 :: ?s22 :: ?s23 :: ?s24 :: ?s25 :: ?s26 :: ?s27 :: ?s28 :: ?s29 :: ?s30 :: ?s31 :: ?s32 :: ?s33 :: ?s34 :: ?s35 :: ?s36 :: ?s37 :: ?s38 :: ?s39 :: ?s40 :: ?s41 :: ?s42 :: ?s43 :: ?s44 :: ?s45 :: ?s46 :: ?s47 :: ?s48 :: ?s49 :: ?s50 :: ?s51 :: ?s52 :: ?s53 :: ?s54 :: ?s55 :: ?s56 :: ?s57 :: ?s58 :: ?s59 :: ?s60 :: ?s61 :: ?s62 :: ?s63 :: Stmt.FunctionDef ?nf64 ?af64 ?bf64 ?df64 ?rf64 ?tpf64 ?scf64 ?tsf64 ?bdf64 ?pf64 :: Stmt.FunctionDef ?nf65 ?af65 ?bf65 ?df65 ?rf65 ?tpf65 ?scf65 ?tsf65 ?bdf65 ?pf65 :: Stmt.FunctionDef ?nf66 ?af66 ?bf66 ?df66 ?rf66 ?tpf66 ?scf66 ?tsf66 ?bdf66 ?pf66 :: ?s67 :: Stmt.FunctionDef ?nf68 ?af68 ?bf68 ?df68 ?rf68 ?tpf68 ?scf68 ?tsf68 ?bdf68 ?pf68 :: Stmt.FunctionDef ?nf69 ?af69 ?bf69 ?df69 ?rf69 ?tpf69 ?scf69 ?tsf69 ?bdf69 ?pf69 :: Stmt.FunctionDef ?nf70 ?af70 ?bf70 ?df70 ?rf70 ?tpf70 ?scf70 ?tsf70 ?bdf70 ?pf70 :: Stmt.FunctionDef ?nf71 ?af71 ?bf71 ?df71 ?rf71 ?tpf71 ?scf71 ?tsf71 ?bdf71 ?pf71 :: Stmt.FunctionDef ?nf72 ?af72 ?bf72 ?df72 ?rf72 ?tpf72 ?scf72 ?tsf72 ?bdf72 ?pf72 :: Stmt.FunctionDef ?nf73 ?af73 ?bf73 ?df73 ?rf73 ?tpf73 ?scf73 ?tsf73 ?bdf73 ?pf73 :: Stmt.FunctionDef ?nf74 ?af74 ?bf74 ?df74 ?rf74 ?tpf74 ?scf74 ?tsf74 ?bdf74 ?pf74 :: Stmt.FunctionDef ?nf75 ?af75 ?bf75 ?df75 ?rf75 ?tpf75 ?scf75 ?tsf75 ?bdf75 ?pf75 :: Stmt.FunctionDef ?nf76 ?af76 ?bf76 ?df76 ?rf76 ?tpf76 ?scf76 ?tsf76 ?bdf76 ?pf76 :: []) ?msc ?mfa ?mfi ?mmo) ?pmo ?ppa ?pab ?pha ?pgi : Program)) => (
    boot_o_0 P ::
    boot_o_1 P ::
    ({ cls := Value.none, data := Data.dict #[] } : Obj) ::
    ({ cls := Value.type "dict", data := Data.dict (List.toArray ({ hash := PyData.keyHash P (Str.ofString "__name__"), key := Value.str (Str.ofString "__name__") 165, val := Value.str (Str.ofString "law_xg0063_01") 582 } :: { hash := PyData.keyHash P (Str.ofString "__doc__"), key := Value.str (Str.ofString "__doc__") 166, val := Value.none } :: { hash := PyData.keyHash P (Str.ofString "__package__"), key := Value.str (Str.ofString "__package__") 167, val := Value.none } :: { hash := PyData.keyHash P (Str.ofString "__loader__"), key := Value.str (Str.ofString "__loader__") 168, val := Value.builtin "__main__.__loader__#opaque" } :: { hash := PyData.keyHash P (Str.ofString "__spec__"), key := Value.str (Str.ofString "__spec__") 169, val := Value.none } :: { hash := PyData.keyHash P (Str.ofString "__annotations__"), key := Value.str (Str.ofString "__annotations__") 170, val := Value.ref 6 } :: { hash := PyData.keyHash P (Str.ofString "__builtins__"), key := Value.str (Str.ofString "__builtins__") 171, val := Value.ref 4 } :: { hash := PyData.keyHash P (Str.ofString "__file__"), key := Value.str (Str.ofString "__file__") 173, val := Value.str (Str.ofString "/claim/cut.py") 172 } :: { hash := PyData.keyHash P (Str.ofString "__cached__"), key := Value.str (Str.ofString "__cached__") 174, val := Value.none } :: { hash := PyData.keyHash P (Str.ofString "_wall"), key := Value.str (Str.ofString "_wall") 193, val := Value.ref 21 } :: { hash := PyData.keyHash P (Str.ofString "ONE_THIRD"), key := Value.str (Str.ofString "ONE_THIRD") 199, val := Value.float 4599676419421066581 198 } :: { hash := PyData.keyHash P (Str.ofString "ONE_SIXTH"), key := Value.str (Str.ofString "ONE_SIXTH") 203, val := Value.float 4595172819793696085 202 } :: { hash := PyData.keyHash P (Str.ofString "rgb_to_hsv"), key := Value.str (Str.ofString "rgb_to_hsv") 221, val := Value.ref 28 } :: { hash := PyData.keyHash P (Str.ofString "EMPTYSTRING"), key := Value.str (Str.ofString "EMPTYSTRING") 225, val := Value.str (Str.ofString "") 224 } :: { hash := PyData.keyHash P (Str.ofString "_Accumulator"), key := Value.str (Str.ofString "_Accumulator") 321, val := Value.ref 108 } :: { hash := PyData.keyHash P (Str.ofString "add_func_stats"), key := Value.str (Str.ofString "add_func_stats") 341, val := Value.ref 119 } :: { hash := PyData.keyHash P (Str.ofString "add_callers"), key := Value.str (Str.ofString "add_callers") 352, val := Value.ref 126 } :: { hash := PyData.keyHash P (Str.ofString "count_calls"), key := Value.str (Str.ofString "count_calls") 361, val := Value.ref 133 } :: { hash := PyData.keyHash P (Str.ofString "ENDMARKER"), key := Value.str (Str.ofString "ENDMARKER") 365, val := Value.int 0 364 } :: { hash := PyData.keyHash P (Str.ofString "LPAR"), key := Value.str (Str.ofString "LPAR") 367, val := Value.int 7 366 } :: { hash := PyData.keyHash P (Str.ofString "RPAR"), key := Value.str (Str.ofString "RPAR") 369, val := Value.int 8 368 } :: { hash := PyData.keyHash P (Str.ofString "LSQB"), key := Value.str (Str.ofString "LSQB") 371, val := Value.int 9 370 } :: { hash := PyData.keyHash P (Str.ofString "RSQB"), key := Value.str (Str.ofString "RSQB") 373, val := Value.int 10 372 } :: { hash := PyData.keyHash P (Str.ofString "COLON"), key := Value.str (Str.ofString "COLON") 375, val := Value.int 11 374 } :: { hash := PyData.keyHash P (Str.ofString "COMMA"), key := Value.str (Str.ofString "COMMA") 377, val := Value.int 12 376 } :: { hash := PyData.keyHash P (Str.ofString "SEMI"), key := Value.str (Str.ofString "SEMI") 379, val := Value.int 13 378 } :: { hash := PyData.keyHash P (Str.ofString "PLUS"), key := Value.str (Str.ofString "PLUS") 381, val := Value.int 14 380 } :: { hash := PyData.keyHash P (Str.ofString "MINUS"), key := Value.str (Str.ofString "MINUS") 383, val := Value.int 15 382 } :: { hash := PyData.keyHash P (Str.ofString "STAR"), key := Value.str (Str.ofString "STAR") 385, val := Value.int 16 384 } :: { hash := PyData.keyHash P (Str.ofString "SLASH"), key := Value.str (Str.ofString "SLASH") 387, val := Value.int 17 386 } :: { hash := PyData.keyHash P (Str.ofString "VBAR"), key := Value.str (Str.ofString "VBAR") 389, val := Value.int 18 388 } :: { hash := PyData.keyHash P (Str.ofString "AMPER"), key := Value.str (Str.ofString "AMPER") 391, val := Value.int 19 390 } :: { hash := PyData.keyHash P (Str.ofString "LESS"), key := Value.str (Str.ofString "LESS") 393, val := Value.int 20 392 } :: { hash := PyData.keyHash P (Str.ofString "GREATER"), key := Value.str (Str.ofString "GREATER") 395, val := Value.int 21 394 } :: { hash := PyData.keyHash P (Str.ofString "EQUAL"), key := Value.str (Str.ofString "EQUAL") 397, val := Value.int 22 396 } :: { hash := PyData.keyHash P (Str.ofString "DOT"), key := Value.str (Str.ofString "DOT") 399, val := Value.int 23 398 } :: { hash := PyData.keyHash P (Str.ofString "PERCENT"), key := Value.str (Str.ofString "PERCENT") 401, val := Value.int 24 400 } :: { hash := PyData.keyHash P (Str.ofString "LBRACE"), key := Value.str (Str.ofString "LBRACE") 403, val := Value.int 25 402 } :: { hash := PyData.keyHash P (Str.ofString "RBRACE"), key := Value.str (Str.ofString "RBRACE") 405, val := Value.int 26 404 } :: { hash := PyData.keyHash P (Str.ofString "EQEQUAL"), key := Value.str (Str.ofString "EQEQUAL") 407, val := Value.int 27 406 } :: { hash := PyData.keyHash P (Str.ofString "NOTEQUAL"), key := Value.str (Str.ofString "NOTEQUAL") 409, val := Value.int 28 408 } :: { hash := PyData.keyHash P (Str.ofString "LESSEQUAL"), key := Value.str (Str.ofString "LESSEQUAL") 411, val := Value.int 29 410 } :: { hash := PyData.keyHash P (Str.ofString "GREATEREQUAL"), key := Value.str (Str.ofString "GREATEREQUAL") 413, val := Value.int 30 412 } :: { hash := PyData.keyHash P (Str.ofString "TILDE"), key := Value.str (Str.ofString "TILDE") 415, val := Value.int 31 414 } :: { hash := PyData.keyHash P (Str.ofString "CIRCUMFLEX"), key := Value.str (Str.ofString "CIRCUMFLEX") 417, val := Value.int 32 416 } :: { hash := PyData.keyHash P (Str.ofString "LEFTSHIFT"), key := Value.str (Str.ofString "LEFTSHIFT") 419, val := Value.int 33 418 } :: { hash := PyData.keyHash P (Str.ofString "RIGHTSHIFT"), key := Value.str (Str.ofString "RIGHTSHIFT") 421, val := Value.int 34 420 } :: { hash := PyData.keyHash P (Str.ofString "DOUBLESTAR"), key := Value.str (Str.ofString "DOUBLESTAR") 423, val := Value.int 35 422 } :: { hash := PyData.keyHash P (Str.ofString "PLUSEQUAL"), key := Value.str (Str.ofString "PLUSEQUAL") 425, val := Value.int 36 424 } :: { hash := PyData.keyHash P (Str.ofString "MINEQUAL"), key := Value.str (Str.ofString "MINEQUAL") 427, val := Value.int 37 426 } :: { hash := PyData.keyHash P (Str.ofString "STAREQUAL"), key := Value.str (Str.ofString "STAREQUAL") 429, val := Value.int 38 428 } :: { hash := PyData.keyHash P (Str.ofString "SLASHEQUAL"), key := Value.str (Str.ofString "SLASHEQUAL") 431, val := Value.int 39 430 } :: { hash := PyData.keyHash P (Str.ofString "PERCENTEQUAL"), key := Value.str (Str.ofString "PERCENTEQUAL") 433, val := Value.int 40 432 } :: { hash := PyData.keyHash P (Str.ofString "AMPEREQUAL"), key := Value.str (Str.ofString "AMPEREQUAL") 435, val := Value.int 41 434 } :: { hash := PyData.keyHash P (Str.ofString "VBAREQUAL"), key := Value.str (Str.ofString "VBAREQUAL") 437, val := Value.int 42 436 } :: { hash := PyData.keyHash P (Str.ofString "CIRCUMFLEXEQUAL"), key := Value.str (Str.ofString "CIRCUMFLEXEQUAL") 439, val := Value.int 43 438 } :: { hash := PyData.keyHash P (Str.ofString "LEFTSHIFTEQUAL"), key := Value.str (Str.ofString "LEFTSHIFTEQUAL") 441, val := Value.int 44 440 } :: { hash := PyData.keyHash P (Str.ofString "RIGHTSHIFTEQUAL"), key := Value.str (Str.ofString "RIGHTSHIFTEQUAL") 443, val := Value.int 45 442 } :: { hash := PyData.keyHash P (Str.ofString "DOUBLESTAREQUAL"), key := Value.str (Str.ofString "DOUBLESTAREQUAL") 445, val := Value.int 46 444 } :: { hash := PyData.keyHash P (Str.ofString "DOUBLESLASH"), key := Value.str (Str.ofString "DOUBLESLASH") 447, val := Value.int 47 446 } :: { hash := PyData.keyHash P (Str.ofString "DOUBLESLASHEQUAL"), key := Value.str (Str.ofString "DOUBLESLASHEQUAL") 449, val := Value.int 48 448 } :: { hash := PyData.keyHash P (Str.ofString "AT"), key := Value.str (Str.ofString "AT") 451, val := Value.int 49 450 } :: { hash := PyData.keyHash P (Str.ofString "ATEQUAL"), key := Value.str (Str.ofString "ATEQUAL") 453, val := Value.int 50 452 } :: { hash := PyData.keyHash P (Str.ofString "RARROW"), key := Value.str (Str.ofString "RARROW") 455, val := Value.int 51 454 } :: { hash := PyData.keyHash P (Str.ofString "ELLIPSIS"), key := Value.str (Str.ofString "ELLIPSIS") 457, val := Value.int 52 456 } :: { hash := PyData.keyHash P (Str.ofString "COLONEQUAL"), key := Value.str (Str.ofString "COLONEQUAL") 459, val := Value.int 53 458 } :: { hash := PyData.keyHash P (Str.ofString "EXCLAMATION"), key := Value.str (Str.ofString "EXCLAMATION") 461, val := Value.int 54 460 } :: { hash := PyData.keyHash P (Str.ofString "NT_OFFSET"), key := Value.str (Str.ofString "NT_OFFSET") 463, val := Value.int 256 462 } :: { hash := PyData.keyHash P (Str.ofString "EXACT_TOKEN_TYPES"), key := Value.str (Str.ofString "EXACT_TOKEN_TYPES") 560, val := Value.ref 134 } :: { hash := PyData.keyHash P (Str.ofString "ISTERMINAL"), key := Value.str (Str.ofString "ISTERMINAL") 567, val := Value.ref 143 } :: { hash := PyData.keyHash P (Str.ofString "ISNONTERMINAL"), key := Value.str (Str.ofString "ISNONTERMINAL") 574, val := Value.ref 150 } :: { hash := PyData.keyHash P (Str.ofString "ISEOF"), key := Value.str (Str.ofString "ISEOF") 581, val := Value.ref 157 } :: { hash := PyData.keyHash P (Str.ofString "_law_row"), key := Value.str (Str.ofString "_law_row") 592, val := Value.ref 164 } :: { hash := PyData.keyHash P (Str.ofString "_law_left"), key := Value.str (Str.ofString "_law_left") 601, val := Value.ref 171 } :: { hash := PyData.keyHash P (Str.ofString "_law_light"), key := Value.str (Str.ofString "_law_light") 612, val := Value.ref 178 } :: { hash := PyData.keyHash P (Str.ofString "_law_entries"), key := Value.str (Str.ofString "_law_entries") 627, val := Value.ref 185 } :: { hash := PyData.keyHash P (Str.ofString "_law_owed"), key := Value.str (Str.ofString "_law_owed") 633, val := Value.ref 190 } :: { hash := PyData.keyHash P (Str.ofString "_law_turned"), key := Value.str (Str.ofString "_law_turned") 643, val := Value.ref 197 } :: { hash := PyData.keyHash P (Str.ofString "_law_run"), key := Value.str (Str.ofString "_law_run") 658, val := Value.ref 204 } :: { hash := PyData.keyHash P (Str.ofString "_law_told"), key := Value.str (Str.ofString "_law_told") 664, val := Value.ref 209 } :: { hash := PyData.keyHash P (Str.ofString "law"), key := Value.str (Str.ofString "law") 670, val := Value.ref 214 } :: [])) 81 } : Obj) ::
    boot_o_4 P ::
    boot_o_5 P ::
    ({ cls := Value.type "dict", data := Data.dict #[] } : Obj) ::
    boot_o_7 P ::
    ({ cls := Value.none, data := Data.fields #[] } : Obj) ::
    boot_o_9 P ::
    boot_o_10 P ::
    ({ cls := Value.type "tuple", data := Data.seq #[] } : Obj) ::
    ({ cls := Value.none, data := Data.fields (List.toArray ((Value.int 1 0) :: (Value.int 0 0) :: (Value.ref 20) :: (Value.int 7 0) :: (Value.int 0 0) :: (Value.ref 27) :: (Value.int 28 0) :: (Value.int 0 0) :: (Value.ref 35) :: (Value.int 62 0) :: (Value.int 0 0) :: (Value.ref 118) :: (Value.int 66 0) :: (Value.int 0 0) :: (Value.ref 125) :: (Value.int 79 0) :: (Value.int 0 0) :: (Value.ref 132) :: (Value.int 136 0) :: (Value.int 0 0) :: (Value.ref 142) :: (Value.int 138 0) :: (Value.int 0 0) :: (Value.ref 149) :: (Value.int 140 0) :: (Value.int 0 0) :: (Value.ref 156) :: (Value.int 143 0) :: (Value.int 0 0) :: (Value.ref 163) :: (Value.int 151 0) :: (Value.int 0 0) :: (Value.ref 170) :: (Value.int 159 0) :: (Value.int 0 0) :: (Value.ref 177) :: (Value.int 165 0) :: (Value.int 0 0) :: (Value.ref 184) :: (Value.int 175 0) :: (Value.int 0 0) :: (Value.ref 189) :: (Value.int 178 0) :: (Value.int 0 0) :: (Value.ref 196) :: (Value.int 182 0) :: (Value.int 0 0) :: (Value.ref 203) :: (Value.int 201 0) :: (Value.int 0 0) :: (Value.ref 208) :: (Value.int 218 0) :: (Value.int 0 0) :: (Value.ref 213) :: [])) } : Obj) ::
    ({ cls := Value.type "code", data := Data.fields (List.toArray ((Value.str (Str.ofString "<module>") 182) :: (Value.str (Str.ofString "<module>") 183) :: (Value.str (Str.ofString "/claim/cut.py") 184) :: (Value.int 1 0) :: (Value.int 0 0) :: (Value.int 0 0) :: (Value.int 0 0) :: (Value.int 0 0) :: (Value.ref 11) :: (Value.bool false) :: (Value.int 181 0) :: (Value.ref 12) :: (Value.none) :: (Value.none) :: (Value.none) :: (Value.none) :: (Value.int 185 0) :: (Value.int 1 0) :: (Value.str (Str.ofString "/claim/cut.py") 186) :: [])) } : Obj) ::
    ({ cls := Value.type "frame", slots := #[some (Value.ref 13), some (Value.ref 3), some (Value.ref 3), none, some (Value.str (Str.ofString "__main__") 164), none, some (Value.ref 0)] } : Obj) ::
    ({ cls := Value.type "tuple", data := Data.seq #[] } : Obj) ::
    ({ cls := Value.none, data := Data.fields #[] } : Obj) ::
    ({ cls := Value.type "tuple", data := Data.seq #[Value.str (Str.ofString "k") 190] } : Obj) ::
    ({ cls := Value.type "tuple", data := Data.seq #[] } : Obj) ::
    ({ cls := .none, data := .func { name := ?nf0, qualname := (Str.ofString "_wall"), params := ?af0, body := .stmts ?bf0, scope := ?scf0, globals := 0, closure := [], defaults := .none, kwdefaults := .none } } : Obj) ::
    ({ cls := Value.type "code", data := Data.fields (List.toArray ((Value.str (Str.ofString "_wall") 187) :: (Value.str (Str.ofString "_wall") 188) :: (Value.str (Str.ofString "/claim/cut.py") 189) :: (Value.int 1 0) :: (Value.int 1 0) :: (Value.int 0 0) :: (Value.int 0 0) :: (Value.int 3 0) :: (Value.ref 15) :: (Value.bool true) :: (Value.int 181 0) :: (Value.ref 16) :: (Value.none) :: (Value.ref 17) :: (Value.ref 18) :: (Value.ref 19) :: (Value.int 191 0) :: (Value.int 1 0) :: (Value.str (Str.ofString "/claim/cut.py") 192) :: [])) } : Obj) ::
    ({ cls := .type "function", data := .func { name := ?nf0, qualname := (Str.ofString "_wall"), params := ?af0, body := .stmts ?bf0, scope := ?scf0, globals := 3, closure := [], defaults := Value.none, kwdefaults := .none, pyModule := .str (Str.ofString "__main__") 164, code := .ref 20 } } : Obj) ::
    ({ cls := Value.type "tuple", data := Data.seq #[] } : Obj) ::
    ({ cls := Value.none, data := Data.fields #[] } : Obj) ::
    ({ cls := Value.type "tuple", data := Data.seq (List.toArray ((Value.str (Str.ofString "r") 207) :: (Value.str (Str.ofString "g") 208) :: (Value.str (Str.ofString "b") 209) :: (Value.str (Str.ofString "maxc") 210) :: (Value.str (Str.ofString "minc") 211) :: (Value.str (Str.ofString "rangec") 212) :: (Value.str (Str.ofString "v") 213) :: (Value.str (Str.ofString "s") 214) :: (Value.str (Str.ofString "rc") 215) :: (Value.str (Str.ofString "gc") 216) :: (Value.str (Str.ofString "bc") 217) :: (Value.str (Str.ofString "h") 218) :: [])) } : Obj) ::
    ({ cls := Value.type "tuple", data := Data.seq #[] } : Obj) ::
    ({ cls := .none, data := .func { name := ?nf4, qualname := (Str.ofString "rgb_to_hsv"), params := ?af4, body := .stmts ?bf4, scope := ?scf4, globals := 0, closure := [], defaults := .none, kwdefaults := .none } } : Obj) ::
    ({ cls := .type "code", data := .fields (List.toArray ((Value.str (Str.ofString "rgb_to_hsv") 204) :: (Value.str (Str.ofString "rgb_to_hsv") 205) :: (Value.str (Str.ofString "/claim/cut.py") 206) :: (Value.int 7 0) :: (Value.int 3 0) :: (Value.int 0 0) :: (Value.int 0 0) :: (Value.int 3 0) :: (Value.ref 22) :: (Value.bool true) :: (Value.int 181 0) :: (Value.ref 23) :: (Value.none) :: (Value.ref 24) :: (Value.ref 25) :: (Value.ref 26) :: (Value.int 219 0) :: (Value.int 7 0) :: (Value.str (Str.ofString "/claim/cut.py") 220) :: [])) } : Obj) ::
    ({ cls := .type "function", data := .func { name := ?nf4, qualname := (Str.ofString "rgb_to_hsv"), params := ?af4, body := .stmts ?bf4, scope := ?scf4, globals := 3, closure := [], defaults := Value.none, kwdefaults := .none, pyModule := .str (Str.ofString "cpy313.colorsys") 194, code := .ref 27, closureTuple := Value.none } } : Obj) ::
    ({ cls := Value.type "tuple", data := Data.seq #[Value.type "list"] } : Obj) ::
    ({ cls := Value.type "builtin_function_or_method", data := Data.fields #[Value.builtin "type.__prepare__", Value.type "type"] } : Obj) ::
    ({ cls := Value.type "dict", data := Data.dict (List.toArray ({ hash := PyData.keyHash P (Str.ofString "__module__"), key := Value.str (Str.ofString "__module__") 233, val := Value.str (Str.ofString "cpy313.email.header") 222 } :: { hash := PyData.keyHash P (Str.ofString "__qualname__"), key := Value.str (Str.ofString "__qualname__") 235, val := Value.str (Str.ofString "_Accumulator") 234 } :: { hash := PyData.keyHash P (Str.ofString "__firstlineno__"), key := Value.str (Str.ofString "__firstlineno__") 237, val := Value.int 28 236 } :: { hash := PyData.keyHash P (Str.ofString "__init__"), key := Value.str (Str.ofString "__init__") 247, val := Value.ref 45 } :: { hash := PyData.keyHash P (Str.ofString "push"), key := Value.str (Str.ofString "push") 256, val := Value.ref 52 } :: { hash := PyData.keyHash P (Str.ofString "pop_from"), key := Value.str (Str.ofString "pop_from") 266, val := Value.ref 60 } :: { hash := PyData.keyHash P (Str.ofString "pop"), key := Value.str (Str.ofString "pop") 274, val := Value.ref 68 } :: { hash := PyData.keyHash P (Str.ofString "__len__"), key := Value.str (Str.ofString "__len__") 281, val := Value.ref 75 } :: { hash := PyData.keyHash P (Str.ofString "__str__"), key := Value.str (Str.ofString "__str__") 288, val := Value.ref 82 } :: { hash := PyData.keyHash P (Str.ofString "reset"), key := Value.str (Str.ofString "reset") 296, val := Value.ref 90 } :: { hash := PyData.keyHash P (Str.ofString "is_onlyws"), key := Value.str (Str.ofString "is_onlyws") 303, val := Value.ref 97 } :: { hash := PyData.keyHash P (Str.ofString "part_count"), key := Value.str (Str.ofString "part_count") 311, val := Value.ref 105 } :: { hash := PyData.keyHash P (Str.ofString "__static_attributes__"), key := Value.str (Str.ofString "__static_attributes__") 313, val := Value.ref 106 } :: { hash := PyData.keyHash P (Str.ofString "__classcell__"), key := Value.str (Str.ofString "__classcell__") 314, val := Value.ref 32 } :: [])) 14 } : Obj) ::
    ({ cls := Value.type "cell", data := Data.cell (some (Value.ref 108)) } : Obj) ::
    ({ cls := Value.type "tuple", data := Data.seq #[] } : Obj) ::
    ({ cls := Value.none, data := Data.fields (List.toArray ((Value.int 30 0) :: (Value.int 4 0) :: (Value.ref 44) :: (Value.int 34 0) :: (Value.int 4 0) :: (Value.ref 51) :: (Value.int 37 0) :: (Value.int 4 0) :: (Value.ref 59) :: (Value.int 42 0) :: (Value.int 4 0) :: (Value.ref 67) :: (Value.int 47 0) :: (Value.int 4 0) :: (Value.ref 74) :: (Value.int 50 0) :: (Value.int 4 0) :: (Value.ref 81) :: (Value.int 53 0) :: (Value.int 4 0) :: (Value.ref 89) :: (Value.int 56 0) :: (Value.int 4 0) :: (Value.ref 96) :: (Value.int 59 0) :: (Value.int 4 0) :: (Value.ref 104) :: [])) } : Obj) ::
    ({ cls := Value.type "code", data := Data.fields (List.toArray ((Value.str (Str.ofString "_Accumulator") 228) :: (Value.str (Str.ofString "_Accumulator") 229) :: (Value.str (Str.ofString "/claim/cut.py") 230) :: (Value.int 28 0) :: (Value.int 0 0) :: (Value.int 0 0) :: (Value.int 0 0) :: (Value.int 0 0) :: (Value.ref 33) :: (Value.bool false) :: (Value.int 181 0) :: (Value.ref 34) :: (Value.none) :: (Value.none) :: (Value.none) :: (Value.none) :: (Value.int 231 0) :: (Value.int 28 0) :: (Value.str (Str.ofString "/claim/cut.py") 232) :: [])) } : Obj) ::
    ({ cls := Value.type "frame", slots := #[some (Value.ref 35), some (Value.ref 3), some (Value.ref 31), none, some (Value.str (Str.ofString "cpy313.email.header") 222), none, some (Value.ref 0)] } : Obj) ::
    ({ cls := Value.type "tuple", data := Data.seq #[Value.int 0 238] } : Obj) ::
    ({ cls := Value.type "tuple", data := Data.seq #[Value.ref 32] } : Obj) ::
    ({ cls := Value.type "tuple", data := Data.seq #[Value.str (Str.ofString "__class__") 242] } : Obj) ::
    ({ cls := Value.none, data := Data.fields #[] } : Obj) ::
    ({ cls := Value.type "tuple", data := Data.seq #[Value.str (Str.ofString "self") 243, Value.str (Str.ofString "initial_size") 244] } : Obj) ::
    ({ cls := Value.type "tuple", data := Data.seq #[] } : Obj) ::
    ({ cls := .none, data := .func { name := ?nm0, qualname := (Str.ofString "_Accumulator.__init__"), params := ?am0, body := .stmts ?bm0, scope := ?scm0, globals := 0, closure := [], defaults := .none, kwdefaults := .none } } : Obj) ::
    ({ cls := .type "code", data := .fields (List.toArray ((Value.str (Str.ofString "__init__") 239) :: (Value.str (Str.ofString "_Accumulator.__init__") 240) :: (Value.str (Str.ofString "/claim/cut.py") 241) :: (Value.int 30 0) :: (Value.int 2 0) :: (Value.int 0 0) :: (Value.int 0 0) :: (Value.int 3 0) :: (Value.ref 39) :: (Value.bool true) :: (Value.int 181 0) :: (Value.ref 40) :: (Value.none) :: (Value.ref 41) :: (Value.ref 42) :: (Value.ref 43) :: (Value.int 245 0) :: (Value.int 30 0) :: (Value.str (Str.ofString "/claim/cut.py") 246) :: [])) } : Obj) ::
    ({ cls := .type "function", data := .func { name := ?nm0, qualname := (Str.ofString "_Accumulator.__init__"), params := ?am0, body := .stmts ?bm0, scope := ?scm0, globals := 3, closure := [(Str.ofString "__class__", 32)], defaults := Value.ref 37, kwdefaults := .none, pyModule := .str (Str.ofString "cpy313.email.header") 222, code := .ref 44, closureTuple := Value.ref 38 } } : Obj) ::
    ({ cls := Value.type "tuple", data := Data.seq #[] } : Obj) ::
    ({ cls := Value.none, data := Data.fields #[] } : Obj) ::
    ({ cls := Value.type "tuple", data := Data.seq #[Value.str (Str.ofString "self") 251, Value.str (Str.ofString "fws") 252, Value.str (Str.ofString "string") 253] } : Obj) ::
    ({ cls := Value.type "tuple", data := Data.seq #[] } : Obj) ::
    ({ cls := .none, data := .func { name := ?nm1, qualname := (Str.ofString "_Accumulator.push"), params := ?am1, body := .stmts ?bm1, scope := ?scm1, globals := 0, closure := [], defaults := .none, kwdefaults := .none } } : Obj) ::
    ({ cls := .type "code", data := .fields (List.toArray ((Value.str (Str.ofString "push") 248) :: (Value.str (Str.ofString "_Accumulator.push") 249) :: (Value.str (Str.ofString "/claim/cut.py") 250) :: (Value.int 34 0) :: (Value.int 3 0) :: (Value.int 0 0) :: (Value.int 0 0) :: (Value.int 3 0) :: (Value.ref 46) :: (Value.bool true) :: (Value.int 181 0) :: (Value.ref 47) :: (Value.none) :: (Value.ref 48) :: (Value.ref 49) :: (Value.ref 50) :: (Value.int 254 0) :: (Value.int 34 0) :: (Value.str (Str.ofString "/claim/cut.py") 255) :: [])) } : Obj) ::
    ({ cls := .type "function", data := .func { name := ?nm1, qualname := (Str.ofString "_Accumulator.push"), params := ?am1, body := .stmts ?bm1, scope := ?scm1, globals := 3, closure := [], defaults := Value.none, kwdefaults := .none, pyModule := .str (Str.ofString "cpy313.email.header") 222, code := .ref 51, closureTuple := Value.none } } : Obj) ::
    ({ cls := Value.type "tuple", data := Data.seq #[Value.int 0 257] } : Obj) ::
    ({ cls := Value.type "tuple", data := Data.seq #[] } : Obj) ::
    ({ cls := Value.none, data := Data.fields #[] } : Obj) ::
    ({ cls := Value.type "tuple", data := Data.seq #[Value.str (Str.ofString "self") 261, Value.str (Str.ofString "i") 262, Value.str (Str.ofString "popped") 263] } : Obj) ::
    ({ cls := Value.type "tuple", data := Data.seq #[] } : Obj) ::
    ({ cls := .none, data := .func { name := ?nm2, qualname := (Str.ofString "_Accumulator.pop_from"), params := ?am2, body := .stmts ?bm2, scope := ?scm2, globals := 0, closure := [], defaults := .none, kwdefaults := .none } } : Obj) ::
    ({ cls := .type "code", data := .fields (List.toArray ((Value.str (Str.ofString "pop_from") 258) :: (Value.str (Str.ofString "_Accumulator.pop_from") 259) :: (Value.str (Str.ofString "/claim/cut.py") 260) :: (Value.int 37 0) :: (Value.int 2 0) :: (Value.int 0 0) :: (Value.int 0 0) :: (Value.int 3 0) :: (Value.ref 54) :: (Value.bool true) :: (Value.int 181 0) :: (Value.ref 55) :: (Value.none) :: (Value.ref 56) :: (Value.ref 57) :: (Value.ref 58) :: (Value.int 264 0) :: (Value.int 37 0) :: (Value.str (Str.ofString "/claim/cut.py") 265) :: [])) } : Obj) ::
    ({ cls := .type "function", data := .func { name := ?nm2, qualname := (Str.ofString "_Accumulator.pop_from"), params := ?am2, body := .stmts ?bm2, scope := ?scm2, globals := 3, closure := [], defaults := Value.ref 53, kwdefaults := .none, pyModule := .str (Str.ofString "cpy313.email.header") 222, code := .ref 59, closureTuple := Value.none } } : Obj) ::
    ({ cls := Value.type "tuple", data := Data.seq #[Value.ref 32] } : Obj) ::
    ({ cls := Value.type "tuple", data := Data.seq #[Value.str (Str.ofString "__class__") 270] } : Obj) ::
    ({ cls := Value.none, data := Data.fields #[] } : Obj) ::
    ({ cls := Value.type "tuple", data := Data.seq #[Value.str (Str.ofString "self") 271] } : Obj) ::
    ({ cls := Value.type "tuple", data := Data.seq #[] } : Obj) ::
    ({ cls := .none, data := .func { name := ?nm3, qualname := (Str.ofString "_Accumulator.pop"), params := ?am3, body := .stmts ?bm3, scope := ?scm3, globals := 0, closure := [], defaults := .none, kwdefaults := .none } } : Obj) ::
    ({ cls := .type "code", data := .fields (List.toArray ((Value.str (Str.ofString "pop") 267) :: (Value.str (Str.ofString "_Accumulator.pop") 268) :: (Value.str (Str.ofString "/claim/cut.py") 269) :: (Value.int 42 0) :: (Value.int 1 0) :: (Value.int 0 0) :: (Value.int 0 0) :: (Value.int 3 0) :: (Value.ref 62) :: (Value.bool true) :: (Value.int 181 0) :: (Value.ref 63) :: (Value.none) :: (Value.ref 64) :: (Value.ref 65) :: (Value.ref 66) :: (Value.int 272 0) :: (Value.int 42 0) :: (Value.str (Str.ofString "/claim/cut.py") 273) :: [])) } : Obj) ::
    ({ cls := .type "function", data := .func { name := ?nm3, qualname := (Str.ofString "_Accumulator.pop"), params := ?am3, body := .stmts ?bm3, scope := ?scm3, globals := 3, closure := [(Str.ofString "__class__", 32)], defaults := Value.none, kwdefaults := .none, pyModule := .str (Str.ofString "cpy313.email.header") 222, code := .ref 67, closureTuple := Value.ref 61 } } : Obj) ::
    ({ cls := Value.type "tuple", data := Data.seq #[] } : Obj) ::
    ({ cls := Value.none, data := Data.fields #[] } : Obj) ::
    ({ cls := Value.type "tuple", data := Data.seq #[Value.str (Str.ofString "self") 278] } : Obj) ::
    ({ cls := Value.type "tuple", data := Data.seq #[] } : Obj) ::
    ({ cls := .none, data := .func { name := ?nm4, qualname := (Str.ofString "_Accumulator.__len__"), params := ?am4, body := .stmts ?bm4, scope := ?scm4, globals := 0, closure := [], defaults := .none, kwdefaults := .none } } : Obj) ::
    ({ cls := .type "code", data := .fields (List.toArray ((Value.str (Str.ofString "__len__") 275) :: (Value.str (Str.ofString "_Accumulator.__len__") 276) :: (Value.str (Str.ofString "/claim/cut.py") 277) :: (Value.int 47 0) :: (Value.int 1 0) :: (Value.int 0 0) :: (Value.int 0 0) :: (Value.int 3 0) :: (Value.ref 69) :: (Value.bool true) :: (Value.int 181 0) :: (Value.ref 70) :: (Value.none) :: (Value.ref 71) :: (Value.ref 72) :: (Value.ref 73) :: (Value.int 279 0) :: (Value.int 47 0) :: (Value.str (Str.ofString "/claim/cut.py") 280) :: [])) } : Obj) ::
    ({ cls := .type "function", data := .func { name := ?nm4, qualname := (Str.ofString "_Accumulator.__len__"), params := ?am4, body := .stmts ?bm4, scope := ?scm4, globals := 3, closure := [], defaults := Value.none, kwdefaults := .none, pyModule := .str (Str.ofString "cpy313.email.header") 222, code := .ref 74, closureTuple := Value.none } } : Obj) ::
    ({ cls := Value.type "tuple", data := Data.seq #[] } : Obj) ::
    ({ cls := Value.none, data := Data.fields #[] } : Obj) ::
    ({ cls := Value.type "tuple", data := Data.seq #[Value.str (Str.ofString "self") 285] } : Obj) ::
    ({ cls := Value.type "tuple", data := Data.seq #[] } : Obj) ::
    ({ cls := .none, data := .func { name := ?nm5, qualname := (Str.ofString "_Accumulator.__str__"), params := ?am5, body := .stmts ?bm5, scope := ?scm5, globals := 0, closure := [], defaults := .none, kwdefaults := .none } } : Obj) ::
    ({ cls := .type "code", data := .fields (List.toArray ((Value.str (Str.ofString "__str__") 282) :: (Value.str (Str.ofString "_Accumulator.__str__") 283) :: (Value.str (Str.ofString "/claim/cut.py") 284) :: (Value.int 50 0) :: (Value.int 1 0) :: (Value.int 0 0) :: (Value.int 0 0) :: (Value.int 3 0) :: (Value.ref 76) :: (Value.bool true) :: (Value.int 181 0) :: (Value.ref 77) :: (Value.none) :: (Value.ref 78) :: (Value.ref 79) :: (Value.ref 80) :: (Value.int 286 0) :: (Value.int 50 0) :: (Value.str (Str.ofString "/claim/cut.py") 287) :: [])) } : Obj) ::
    ({ cls := .type "function", data := .func { name := ?nm5, qualname := (Str.ofString "_Accumulator.__str__"), params := ?am5, body := .stmts ?bm5, scope := ?scm5, globals := 3, closure := [], defaults := Value.none, kwdefaults := .none, pyModule := .str (Str.ofString "cpy313.email.header") 222, code := .ref 81, closureTuple := Value.none } } : Obj) ::
    ({ cls := Value.type "tuple", data := Data.seq #[Value.none] } : Obj) ::
    ({ cls := Value.type "tuple", data := Data.seq #[] } : Obj) ::
    ({ cls := Value.none, data := Data.fields #[] } : Obj) ::
    ({ cls := Value.type "tuple", data := Data.seq #[Value.str (Str.ofString "self") 292, Value.str (Str.ofString "startval") 293] } : Obj) ::
    ({ cls := Value.type "tuple", data := Data.seq #[] } : Obj) ::
    ({ cls := .none, data := .func { name := ?nm6, qualname := (Str.ofString "_Accumulator.reset"), params := ?am6, body := .stmts ?bm6, scope := ?scm6, globals := 0, closure := [], defaults := .none, kwdefaults := .none } } : Obj) ::
    ({ cls := Value.type "code", data := Data.fields (List.toArray ((Value.str (Str.ofString "reset") 289) :: (Value.str (Str.ofString "_Accumulator.reset") 290) :: (Value.str (Str.ofString "/claim/cut.py") 291) :: (Value.int 53 0) :: (Value.int 2 0) :: (Value.int 0 0) :: (Value.int 0 0) :: (Value.int 3 0) :: (Value.ref 84) :: (Value.bool true) :: (Value.int 181 0) :: (Value.ref 85) :: (Value.none) :: (Value.ref 86) :: (Value.ref 87) :: (Value.ref 88) :: (Value.int 294 0) :: (Value.int 53 0) :: (Value.str (Str.ofString "/claim/cut.py") 295) :: [])) } : Obj) ::
    ({ cls := .type "function", data := .func { name := ?nm6, qualname := (Str.ofString "_Accumulator.reset"), params := ?am6, body := .stmts ?bm6, scope := ?scm6, globals := 3, closure := [], defaults := Value.ref 83, kwdefaults := .none, pyModule := .str (Str.ofString "cpy313.email.header") 222, code := .ref 89 } } : Obj) ::
    ({ cls := Value.type "tuple", data := Data.seq #[] } : Obj) ::
    ({ cls := Value.none, data := Data.fields #[] } : Obj) ::
    ({ cls := Value.type "tuple", data := Data.seq #[Value.str (Str.ofString "self") 300] } : Obj) ::
    ({ cls := Value.type "tuple", data := Data.seq #[] } : Obj) ::
    ({ cls := .none, data := .func { name := ?nm7, qualname := (Str.ofString "_Accumulator.is_onlyws"), params := ?am7, body := .stmts ?bm7, scope := ?scm7, globals := 0, closure := [], defaults := .none, kwdefaults := .none } } : Obj) ::
    ({ cls := Value.type "code", data := Data.fields (List.toArray ((Value.str (Str.ofString "is_onlyws") 297) :: (Value.str (Str.ofString "_Accumulator.is_onlyws") 298) :: (Value.str (Str.ofString "/claim/cut.py") 299) :: (Value.int 56 0) :: (Value.int 1 0) :: (Value.int 0 0) :: (Value.int 0 0) :: (Value.int 3 0) :: (Value.ref 91) :: (Value.bool true) :: (Value.int 181 0) :: (Value.ref 92) :: (Value.none) :: (Value.ref 93) :: (Value.ref 94) :: (Value.ref 95) :: (Value.int 301 0) :: (Value.int 56 0) :: (Value.str (Str.ofString "/claim/cut.py") 302) :: [])) } : Obj) ::
    ({ cls := .type "function", data := .func { name := ?nm7, qualname := (Str.ofString "_Accumulator.is_onlyws"), params := ?am7, body := .stmts ?bm7, scope := ?scm7, globals := 3, closure := [], defaults := Value.none, kwdefaults := .none, pyModule := .str (Str.ofString "cpy313.email.header") 222, code := .ref 96 } } : Obj) ::
    ({ cls := Value.type "tuple", data := Data.seq #[Value.ref 32] } : Obj) ::
    ({ cls := Value.type "tuple", data := Data.seq #[Value.str (Str.ofString "__class__") 307] } : Obj) ::
    ({ cls := Value.none, data := Data.fields #[] } : Obj) ::
    ({ cls := Value.type "tuple", data := Data.seq #[Value.str (Str.ofString "self") 308] } : Obj) ::
    ({ cls := Value.type "tuple", data := Data.seq #[] } : Obj) ::
    ({ cls := .none, data := .func { name := ?nm8, qualname := (Str.ofString "_Accumulator.part_count"), params := ?am8, body := .stmts ?bm8, scope := ?scm8, globals := 0, closure := [], defaults := .none, kwdefaults := .none } } : Obj) ::
    ({ cls := .type "code", data := .fields (List.toArray ((Value.str (Str.ofString "part_count") 304) :: (Value.str (Str.ofString "_Accumulator.part_count") 305) :: (Value.str (Str.ofString "/claim/cut.py") 306) :: (Value.int 59 0) :: (Value.int 1 0) :: (Value.int 0 0) :: (Value.int 0 0) :: (Value.int 3 0) :: (Value.ref 99) :: (Value.bool true) :: (Value.int 181 0) :: (Value.ref 100) :: (Value.none) :: (Value.ref 101) :: (Value.ref 102) :: (Value.ref 103) :: (Value.int 309 0) :: (Value.int 59 0) :: (Value.str (Str.ofString "/claim/cut.py") 310) :: [])) } : Obj) ::
    ({ cls := .type "function", data := .func { name := ?nm8, qualname := (Str.ofString "_Accumulator.part_count"), params := ?am8, body := .stmts ?bm8, scope := ?scm8, globals := 3, closure := [(Str.ofString "__class__", 32)], defaults := Value.none, kwdefaults := .none, pyModule := .str (Str.ofString "cpy313.email.header") 222, code := .ref 104, closureTuple := Value.ref 98 } } : Obj) ::
    ({ cls := Value.type "tuple", data := Data.seq #[Value.str (Str.ofString "_initial_size") 312] } : Obj) ::
    ({ cls := Value.type "dict", data := Data.dict (List.toArray ({ hash := PyData.keyHash P (Str.ofString "__module__"), key := Value.str (Str.ofString "__module__") 233, val := Value.str (Str.ofString "cpy313.email.header") 222 } :: { hash := PyData.keyHash P (Str.ofString "__firstlineno__"), key := Value.str (Str.ofString "__firstlineno__") 237, val := Value.int 28 236 } :: { hash := PyData.keyHash P (Str.ofString "__init__"), key := Value.str (Str.ofString "__init__") 247, val := Value.ref 45 } :: { hash := PyData.keyHash P (Str.ofString "push"), key := Value.str (Str.ofString "push") 256, val := Value.ref 52 } :: { hash := PyData.keyHash P (Str.ofString "pop_from"), key := Value.str (Str.ofString "pop_from") 266, val := Value.ref 60 } :: { hash := PyData.keyHash P (Str.ofString "pop"), key := Value.str (Str.ofString "pop") 274, val := Value.ref 68 } :: { hash := PyData.keyHash P (Str.ofString "__len__"), key := Value.str (Str.ofString "__len__") 281, val := Value.ref 75 } :: { hash := PyData.keyHash P (Str.ofString "__str__"), key := Value.str (Str.ofString "__str__") 288, val := Value.ref 82 } :: { hash := PyData.keyHash P (Str.ofString "reset"), key := Value.str (Str.ofString "reset") 296, val := Value.ref 90 } :: { hash := PyData.keyHash P (Str.ofString "is_onlyws"), key := Value.str (Str.ofString "is_onlyws") 303, val := Value.ref 97 } :: { hash := PyData.keyHash P (Str.ofString "part_count"), key := Value.str (Str.ofString "part_count") 311, val := Value.ref 105 } :: { hash := PyData.keyHash P (Str.ofString "__static_attributes__"), key := Value.str (Str.ofString "__static_attributes__") 313, val := Value.ref 106 } :: { hash := PyData.keyHash P (Str.ofString "__dict__"), key := Value.str (Str.ofString "__dict__") 316, val := Value.ref 109 } :: { hash := PyData.keyHash P (Str.ofString "__weakref__"), key := Value.str (Str.ofString "__weakref__") 318, val := Value.ref 110 } :: { hash := PyData.keyHash P (Str.ofString "__doc__"), key := Value.str (Str.ofString "__doc__") 319, val := Value.none } :: [])) 5 } : Obj) ::
    ({ cls := Value.type "type", data := Data.cls { name := Str.ofString "_Accumulator", bases := [Value.type "list"], mro := [Value.ref 108, Value.type "list", Value.type "object"], ns := 107, qualname := Str.ofString "_Accumulator" }, slots := #[some (Value.ref 29), none, some (Value.str (Str.ofString "_Accumulator") 226), some (Value.str (Str.ofString "_Accumulator") 234), some (Value.builtin "list.__new__"), some (Value.bool true)] } : Obj) ::
    ({ cls := Value.type "getset_descriptor", data := Data.fields #[Value.str (Str.ofString "__dict__") 315, Value.ref 108, Value.builtin "function.__dict__", Value.builtin "function.__dict__#set"] } : Obj) ::
    ({ cls := Value.type "getset_descriptor", data := Data.fields #[Value.str (Str.ofString "__weakref__") 317, Value.ref 108, Value.builtin "ExceptionGroup.__weakref__", Value.none] } : Obj) ::
    ({ cls := Value.type "super", data := Data.fields #[Value.ref 108, Value.ref 108, Value.ref 108] } : Obj) ::
    ({ cls := Value.type "builtin_function_or_method", data := Data.fields #[Value.builtin "object.__init_subclass__", Value.ref 108] } : Obj) ::
    ({ cls := Value.type "tuple", data := Data.seq #[] } : Obj) ::
    ({ cls := Value.none, data := Data.fields #[] } : Obj) ::
    ({ cls := Value.type "tuple", data := Data.seq (List.toArray ((Value.str (Str.ofString "target") 327) :: (Value.str (Str.ofString "source") 328) :: (Value.str (Str.ofString "cc") 329) :: (Value.str (Str.ofString "nc") 330) :: (Value.str (Str.ofString "tt") 331) :: (Value.str (Str.ofString "ct") 332) :: (Value.str (Str.ofString "callers") 333) :: (Value.str (Str.ofString "t_cc") 334) :: (Value.str (Str.ofString "t_nc") 335) :: (Value.str (Str.ofString "t_tt") 336) :: (Value.str (Str.ofString "t_ct") 337) :: (Value.str (Str.ofString "t_callers") 338) :: [])) } : Obj) ::
    ({ cls := Value.type "tuple", data := Data.seq #[] } : Obj) ::
    ({ cls := .none, data := .func { name := ?nf9, qualname := (Str.ofString "add_func_stats"), params := ?af9, body := .stmts ?bf9, scope := ?scf9, globals := 0, closure := [], defaults := .none, kwdefaults := .none } } : Obj) ::
    ({ cls := .type "code", data := .fields (List.toArray ((Value.str (Str.ofString "add_func_stats") 324) :: (Value.str (Str.ofString "add_func_stats") 325) :: (Value.str (Str.ofString "/claim/cut.py") 326) :: (Value.int 62 0) :: (Value.int 2 0) :: (Value.int 0 0) :: (Value.int 0 0) :: (Value.int 3 0) :: (Value.ref 113) :: (Value.bool true) :: (Value.int 181 0) :: (Value.ref 114) :: (Value.none) :: (Value.ref 115) :: (Value.ref 116) :: (Value.ref 117) :: (Value.int 339 0) :: (Value.int 62 0) :: (Value.str (Str.ofString "/claim/cut.py") 340) :: [])) } : Obj) ::
    ({ cls := .type "function", data := .func { name := ?nf9, qualname := (Str.ofString "add_func_stats"), params := ?af9, body := .stmts ?bf9, scope := ?scf9, globals := 3, closure := [], defaults := Value.none, kwdefaults := .none, pyModule := .str (Str.ofString "cpy313.pstats") 322, code := .ref 118, closureTuple := Value.none } } : Obj) ::
    ({ cls := Value.type "tuple", data := Data.seq #[] } : Obj) ::
    ({ cls := Value.none, data := Data.fields #[] } : Obj) ::
    ({ cls := Value.type "tuple", data := Data.seq #[Value.str (Str.ofString "target") 345, Value.str (Str.ofString "source") 346, Value.str (Str.ofString "new_callers") 347, Value.str (Str.ofString "func") 348, Value.str (Str.ofString "caller") 349] } : Obj) ::
    ({ cls := Value.type "tuple", data := Data.seq #[] } : Obj) ::
    ({ cls := .none, data := .func { name := ?nf10, qualname := (Str.ofString "add_callers"), params := ?af10, body := .stmts ?bf10, scope := ?scf10, globals := 0, closure := [], defaults := .none, kwdefaults := .none } } : Obj) ::
    ({ cls := .type "code", data := .fields (List.toArray ((Value.str (Str.ofString "add_callers") 342) :: (Value.str (Str.ofString "add_callers") 343) :: (Value.str (Str.ofString "/claim/cut.py") 344) :: (Value.int 66 0) :: (Value.int 2 0) :: (Value.int 0 0) :: (Value.int 0 0) :: (Value.int 3 0) :: (Value.ref 120) :: (Value.bool true) :: (Value.int 181 0) :: (Value.ref 121) :: (Value.none) :: (Value.ref 122) :: (Value.ref 123) :: (Value.ref 124) :: (Value.int 350 0) :: (Value.int 66 0) :: (Value.str (Str.ofString "/claim/cut.py") 351) :: [])) } : Obj) ::
    ({ cls := .type "function", data := .func { name := ?nf10, qualname := (Str.ofString "add_callers"), params := ?af10, body := .stmts ?bf10, scope := ?scf10, globals := 3, closure := [], defaults := Value.none, kwdefaults := .none, pyModule := .str (Str.ofString "cpy313.pstats") 322, code := .ref 125, closureTuple := Value.none } } : Obj) ::
    ({ cls := Value.type "tuple", data := Data.seq #[] } : Obj) ::
    ({ cls := Value.none, data := Data.fields #[] } : Obj) ::
    ({ cls := Value.type "tuple", data := Data.seq #[Value.str (Str.ofString "callers") 356, Value.str (Str.ofString "nc") 357, Value.str (Str.ofString "calls") 358] } : Obj) ::
    ({ cls := Value.type "tuple", data := Data.seq #[] } : Obj) ::
    ({ cls := .none, data := .func { name := ?nf11, qualname := (Str.ofString "count_calls"), params := ?af11, body := .stmts ?bf11, scope := ?scf11, globals := 0, closure := [], defaults := .none, kwdefaults := .none } } : Obj) ::
    ({ cls := .type "code", data := .fields (List.toArray ((Value.str (Str.ofString "count_calls") 353) :: (Value.str (Str.ofString "count_calls") 354) :: (Value.str (Str.ofString "/claim/cut.py") 355) :: (Value.int 79 0) :: (Value.int 1 0) :: (Value.int 0 0) :: (Value.int 0 0) :: (Value.int 3 0) :: (Value.ref 127) :: (Value.bool true) :: (Value.int 181 0) :: (Value.ref 128) :: (Value.none) :: (Value.ref 129) :: (Value.ref 130) :: (Value.ref 131) :: (Value.int 359 0) :: (Value.int 79 0) :: (Value.str (Str.ofString "/claim/cut.py") 360) :: [])) } : Obj) ::
    ({ cls := .type "function", data := .func { name := ?nf11, qualname := (Str.ofString "count_calls"), params := ?af11, body := .stmts ?bf11, scope := ?scf11, globals := 3, closure := [], defaults := Value.none, kwdefaults := .none, pyModule := .str (Str.ofString "cpy313.pstats") 322, code := .ref 132, closureTuple := Value.none } } : Obj) ::
    ({ cls := Value.type "dict", data := Data.dict (List.toArray ({ hash := PyData.keyHash P (Str.ofString "!"), key := Value.str (Str.ofString "!") 464, val := Value.int 54 460 } :: { hash := PyData.keyHash P (Str.ofString "!="), key := Value.str (Str.ofString "!=") 466, val := Value.int 28 408 } :: { hash := PyData.keyHash P (Str.ofString "%"), key := Value.str (Str.ofString "%") 468, val := Value.int 24 400 } :: { hash := PyData.keyHash P (Str.ofString "%="), key := Value.str (Str.ofString "%=") 470, val := Value.int 40 432 } :: { hash := PyData.keyHash P (Str.ofString "&"), key := Value.str (Str.ofString "&") 472, val := Value.int 19 390 } :: { hash := PyData.keyHash P (Str.ofString "&="), key := Value.str (Str.ofString "&=") 474, val := Value.int 41 434 } :: { hash := PyData.keyHash P (Str.ofString "("), key := Value.str (Str.ofString "(") 476, val := Value.int 7 366 } :: { hash := PyData.keyHash P (Str.ofString ")"), key := Value.str (Str.ofString ")") 478, val := Value.int 8 368 } :: { hash := PyData.keyHash P (Str.ofString "*"), key := Value.str (Str.ofString "*") 480, val := Value.int 16 384 } :: { hash := PyData.keyHash P (Str.ofString "**"), key := Value.str (Str.ofString "**") 482, val := Value.int 35 422 } :: { hash := PyData.keyHash P (Str.ofString "**="), key := Value.str (Str.ofString "**=") 484, val := Value.int 46 444 } :: { hash := PyData.keyHash P (Str.ofString "*="), key := Value.str (Str.ofString "*=") 486, val := Value.int 38 428 } :: { hash := PyData.keyHash P (Str.ofString "+"), key := Value.str (Str.ofString "+") 488, val := Value.int 14 380 } :: { hash := PyData.keyHash P (Str.ofString "+="), key := Value.str (Str.ofString "+=") 490, val := Value.int 36 424 } :: { hash := PyData.keyHash P (Str.ofString ","), key := Value.str (Str.ofString ",") 492, val := Value.int 12 376 } :: { hash := PyData.keyHash P (Str.ofString "-"), key := Value.str (Str.ofString "-") 494, val := Value.int 15 382 } :: { hash := PyData.keyHash P (Str.ofString "-="), key := Value.str (Str.ofString "-=") 496, val := Value.int 37 426 } :: { hash := PyData.keyHash P (Str.ofString "->"), key := Value.str (Str.ofString "->") 498, val := Value.int 51 454 } :: { hash := PyData.keyHash P (Str.ofString "."), key := Value.str (Str.ofString ".") 500, val := Value.int 23 398 } :: { hash := PyData.keyHash P (Str.ofString "..."), key := Value.str (Str.ofString "...") 502, val := Value.int 52 456 } :: { hash := PyData.keyHash P (Str.ofString "/"), key := Value.str (Str.ofString "/") 504, val := Value.int 17 386 } :: { hash := PyData.keyHash P (Str.ofString "//"), key := Value.str (Str.ofString "//") 506, val := Value.int 47 446 } :: { hash := PyData.keyHash P (Str.ofString "//="), key := Value.str (Str.ofString "//=") 508, val := Value.int 48 448 } :: { hash := PyData.keyHash P (Str.ofString "/="), key := Value.str (Str.ofString "/=") 510, val := Value.int 39 430 } :: { hash := PyData.keyHash P (Str.ofString ":"), key := Value.str (Str.ofString ":") 512, val := Value.int 11 374 } :: { hash := PyData.keyHash P (Str.ofString ":="), key := Value.str (Str.ofString ":=") 514, val := Value.int 53 458 } :: { hash := PyData.keyHash P (Str.ofString ";"), key := Value.str (Str.ofString ";") 516, val := Value.int 13 378 } :: { hash := PyData.keyHash P (Str.ofString "<"), key := Value.str (Str.ofString "<") 518, val := Value.int 20 392 } :: { hash := PyData.keyHash P (Str.ofString "<<"), key := Value.str (Str.ofString "<<") 520, val := Value.int 33 418 } :: { hash := PyData.keyHash P (Str.ofString "<<="), key := Value.str (Str.ofString "<<=") 522, val := Value.int 44 440 } :: { hash := PyData.keyHash P (Str.ofString "<="), key := Value.str (Str.ofString "<=") 524, val := Value.int 29 410 } :: { hash := PyData.keyHash P (Str.ofString "="), key := Value.str (Str.ofString "=") 526, val := Value.int 22 396 } :: { hash := PyData.keyHash P (Str.ofString "=="), key := Value.str (Str.ofString "==") 528, val := Value.int 27 406 } :: { hash := PyData.keyHash P (Str.ofString ">"), key := Value.str (Str.ofString ">") 530, val := Value.int 21 394 } :: { hash := PyData.keyHash P (Str.ofString ">="), key := Value.str (Str.ofString ">=") 532, val := Value.int 30 412 } :: { hash := PyData.keyHash P (Str.ofString ">>"), key := Value.str (Str.ofString ">>") 533, val := Value.int 34 420 } :: { hash := PyData.keyHash P (Str.ofString ">>="), key := Value.str (Str.ofString ">>=") 534, val := Value.int 45 442 } :: { hash := PyData.keyHash P (Str.ofString "@"), key := Value.str (Str.ofString "@") 535, val := Value.int 49 450 } :: { hash := PyData.keyHash P (Str.ofString "@="), key := Value.str (Str.ofString "@=") 536, val := Value.int 50 452 } :: { hash := PyData.keyHash P (Str.ofString "["), key := Value.str (Str.ofString "[") 537, val := Value.int 9 370 } :: { hash := PyData.keyHash P (Str.ofString "]"), key := Value.str (Str.ofString "]") 538, val := Value.int 10 372 } :: { hash := PyData.keyHash P (Str.ofString "^"), key := Value.str (Str.ofString "^") 539, val := Value.int 32 416 } :: { hash := PyData.keyHash P (Str.ofString "^="), key := Value.str (Str.ofString "^=") 540, val := Value.int 43 438 } :: { hash := PyData.keyHash P (Str.ofString "{"), key := Value.str (Str.ofString "{") 541, val := Value.int 25 402 } :: { hash := PyData.keyHash P (Str.ofString "|"), key := Value.str (Str.ofString "|") 542, val := Value.int 18 388 } :: { hash := PyData.keyHash P (Str.ofString "|="), key := Value.str (Str.ofString "|=") 543, val := Value.int 42 436 } :: { hash := PyData.keyHash P (Str.ofString "}"), key := Value.str (Str.ofString "}") 544, val := Value.int 26 404 } :: { hash := PyData.keyHash P (Str.ofString "~"), key := Value.str (Str.ofString "~") 545, val := Value.int 31 414 } :: [])) 48 } : Obj) ::
    ({ cls := Value.type "dict", data := Data.dict (List.toArray ({ hash := PyData.keyHash P (Str.ofString "->"), key := Value.str (Str.ofString "->") 498, val := Value.int 51 454 } :: { hash := PyData.keyHash P (Str.ofString "."), key := Value.str (Str.ofString ".") 500, val := Value.int 23 398 } :: { hash := PyData.keyHash P (Str.ofString "..."), key := Value.str (Str.ofString "...") 502, val := Value.int 52 456 } :: { hash := PyData.keyHash P (Str.ofString "/"), key := Value.str (Str.ofString "/") 504, val := Value.int 17 386 } :: { hash := PyData.keyHash P (Str.ofString "//"), key := Value.str (Str.ofString "//") 506, val := Value.int 47 446 } :: { hash := PyData.keyHash P (Str.ofString "//="), key := Value.str (Str.ofString "//=") 508, val := Value.int 48 448 } :: { hash := PyData.keyHash P (Str.ofString "/="), key := Value.str (Str.ofString "/=") 510, val := Value.int 39 430 } :: { hash := PyData.keyHash P (Str.ofString ":"), key := Value.str (Str.ofString ":") 512, val := Value.int 11 374 } :: { hash := PyData.keyHash P (Str.ofString ":="), key := Value.str (Str.ofString ":=") 514, val := Value.int 53 458 } :: { hash := PyData.keyHash P (Str.ofString ";"), key := Value.str (Str.ofString ";") 516, val := Value.int 13 378 } :: { hash := PyData.keyHash P (Str.ofString "<"), key := Value.str (Str.ofString "<") 518, val := Value.int 20 392 } :: { hash := PyData.keyHash P (Str.ofString "<<"), key := Value.str (Str.ofString "<<") 520, val := Value.int 33 418 } :: { hash := PyData.keyHash P (Str.ofString "<<="), key := Value.str (Str.ofString "<<=") 522, val := Value.int 44 440 } :: { hash := PyData.keyHash P (Str.ofString "<="), key := Value.str (Str.ofString "<=") 524, val := Value.int 29 410 } :: { hash := PyData.keyHash P (Str.ofString "="), key := Value.str (Str.ofString "=") 526, val := Value.int 22 396 } :: { hash := PyData.keyHash P (Str.ofString "=="), key := Value.str (Str.ofString "==") 528, val := Value.int 27 406 } :: { hash := PyData.keyHash P (Str.ofString ">"), key := Value.str (Str.ofString ">") 530, val := Value.int 21 394 } :: [])) 17 } : Obj) ::
    ({ cls := Value.type "dict", data := Data.dict (List.toArray ({ hash := PyData.keyHash P (Str.ofString ">="), key := Value.str (Str.ofString ">=") 532, val := Value.int 30 412 } :: { hash := PyData.keyHash P (Str.ofString ">>"), key := Value.str (Str.ofString ">>") 533, val := Value.int 34 420 } :: { hash := PyData.keyHash P (Str.ofString ">>="), key := Value.str (Str.ofString ">>=") 534, val := Value.int 45 442 } :: { hash := PyData.keyHash P (Str.ofString "@"), key := Value.str (Str.ofString "@") 535, val := Value.int 49 450 } :: { hash := PyData.keyHash P (Str.ofString "@="), key := Value.str (Str.ofString "@=") 536, val := Value.int 50 452 } :: { hash := PyData.keyHash P (Str.ofString "["), key := Value.str (Str.ofString "[") 537, val := Value.int 9 370 } :: { hash := PyData.keyHash P (Str.ofString "]"), key := Value.str (Str.ofString "]") 538, val := Value.int 10 372 } :: { hash := PyData.keyHash P (Str.ofString "^"), key := Value.str (Str.ofString "^") 539, val := Value.int 32 416 } :: { hash := PyData.keyHash P (Str.ofString "^="), key := Value.str (Str.ofString "^=") 540, val := Value.int 43 438 } :: { hash := PyData.keyHash P (Str.ofString "{"), key := Value.str (Str.ofString "{") 541, val := Value.int 25 402 } :: { hash := PyData.keyHash P (Str.ofString "|"), key := Value.str (Str.ofString "|") 542, val := Value.int 18 388 } :: { hash := PyData.keyHash P (Str.ofString "|="), key := Value.str (Str.ofString "|=") 543, val := Value.int 42 436 } :: { hash := PyData.keyHash P (Str.ofString "}"), key := Value.str (Str.ofString "}") 544, val := Value.int 26 404 } :: { hash := PyData.keyHash P (Str.ofString "~"), key := Value.str (Str.ofString "~") 545, val := Value.int 31 414 } :: [])) 14 } : Obj) ::
    ({ cls := Value.type "tuple", data := Data.seq #[] } : Obj) ::
    ({ cls := Value.none, data := Data.fields #[] } : Obj) ::
    ({ cls := Value.type "tuple", data := Data.seq #[Value.str (Str.ofString "x") 564] } : Obj) ::
    ({ cls := Value.type "tuple", data := Data.seq #[] } : Obj) ::
    ({ cls := .none, data := .func { name := ?nf64, qualname := (Str.ofString "ISTERMINAL"), params := ?af64, body := .stmts ?bf64, scope := ?scf64, globals := 0, closure := [], defaults := .none, kwdefaults := .none } } : Obj) ::
    ({ cls := .type "code", data := .fields (List.toArray ((Value.str (Str.ofString "ISTERMINAL") 561) :: (Value.str (Str.ofString "ISTERMINAL") 562) :: (Value.str (Str.ofString "/claim/cut.py") 563) :: (Value.int 136 0) :: (Value.int 1 0) :: (Value.int 0 0) :: (Value.int 0 0) :: (Value.int 3 0) :: (Value.ref 137) :: (Value.bool true) :: (Value.int 181 0) :: (Value.ref 138) :: (Value.none) :: (Value.ref 139) :: (Value.ref 140) :: (Value.ref 141) :: (Value.int 565 0) :: (Value.int 136 0) :: (Value.str (Str.ofString "/claim/cut.py") 566) :: [])) } : Obj) ::
    ({ cls := .type "function", data := .func { name := ?nf64, qualname := (Str.ofString "ISTERMINAL"), params := ?af64, body := .stmts ?bf64, scope := ?scf64, globals := 3, closure := [], defaults := Value.none, kwdefaults := .none, pyModule := .str (Str.ofString "cpy313.token") 362, code := .ref 142, closureTuple := Value.none } } : Obj) ::
    ({ cls := Value.type "tuple", data := Data.seq #[] } : Obj) ::
    ({ cls := Value.none, data := Data.fields #[] } : Obj) ::
    ({ cls := Value.type "tuple", data := Data.seq #[Value.str (Str.ofString "x") 571] } : Obj) ::
    ({ cls := Value.type "tuple", data := Data.seq #[] } : Obj) ::
    ({ cls := .none, data := .func { name := ?nf65, qualname := (Str.ofString "ISNONTERMINAL"), params := ?af65, body := .stmts ?bf65, scope := ?scf65, globals := 0, closure := [], defaults := .none, kwdefaults := .none } } : Obj) ::
    ({ cls := .type "code", data := .fields (List.toArray ((Value.str (Str.ofString "ISNONTERMINAL") 568) :: (Value.str (Str.ofString "ISNONTERMINAL") 569) :: (Value.str (Str.ofString "/claim/cut.py") 570) :: (Value.int 138 0) :: (Value.int 1 0) :: (Value.int 0 0) :: (Value.int 0 0) :: (Value.int 3 0) :: (Value.ref 144) :: (Value.bool true) :: (Value.int 181 0) :: (Value.ref 145) :: (Value.none) :: (Value.ref 146) :: (Value.ref 147) :: (Value.ref 148) :: (Value.int 572 0) :: (Value.int 138 0) :: (Value.str (Str.ofString "/claim/cut.py") 573) :: [])) } : Obj) ::
    ({ cls := .type "function", data := .func { name := ?nf65, qualname := (Str.ofString "ISNONTERMINAL"), params := ?af65, body := .stmts ?bf65, scope := ?scf65, globals := 3, closure := [], defaults := Value.none, kwdefaults := .none, pyModule := .str (Str.ofString "cpy313.token") 362, code := .ref 149, closureTuple := Value.none } } : Obj) ::
    ({ cls := Value.type "tuple", data := Data.seq #[] } : Obj) ::
    ({ cls := Value.none, data := Data.fields #[] } : Obj) ::
    ({ cls := Value.type "tuple", data := Data.seq #[Value.str (Str.ofString "x") 578] } : Obj) ::
    ({ cls := Value.type "tuple", data := Data.seq #[] } : Obj) ::
    ({ cls := .none, data := .func { name := ?nf66, qualname := (Str.ofString "ISEOF"), params := ?af66, body := .stmts ?bf66, scope := ?scf66, globals := 0, closure := [], defaults := .none, kwdefaults := .none } } : Obj) ::
    ({ cls := .type "code", data := .fields (List.toArray ((Value.str (Str.ofString "ISEOF") 575) :: (Value.str (Str.ofString "ISEOF") 576) :: (Value.str (Str.ofString "/claim/cut.py") 577) :: (Value.int 140 0) :: (Value.int 1 0) :: (Value.int 0 0) :: (Value.int 0 0) :: (Value.int 3 0) :: (Value.ref 151) :: (Value.bool true) :: (Value.int 181 0) :: (Value.ref 152) :: (Value.none) :: (Value.ref 153) :: (Value.ref 154) :: (Value.ref 155) :: (Value.int 579 0) :: (Value.int 140 0) :: (Value.str (Str.ofString "/claim/cut.py") 580) :: [])) } : Obj) ::
    ({ cls := .type "function", data := .func { name := ?nf66, qualname := (Str.ofString "ISEOF"), params := ?af66, body := .stmts ?bf66, scope := ?scf66, globals := 3, closure := [], defaults := Value.none, kwdefaults := .none, pyModule := .str (Str.ofString "cpy313.token") 362, code := .ref 156, closureTuple := Value.none } } : Obj) ::
    ({ cls := Value.type "tuple", data := Data.seq #[] } : Obj) ::
    ({ cls := Value.none, data := Data.fields #[] } : Obj) ::
    ({ cls := Value.type "tuple", data := Data.seq #[Value.str (Str.ofString "drawn") 587, Value.str (Str.ofString "row") 588, Value.str (Str.ofString "x") 589] } : Obj) ::
    ({ cls := Value.type "tuple", data := Data.seq #[] } : Obj) ::
    ({ cls := .none, data := .func { name := ?nf68, qualname := (Str.ofString "_law_row"), params := ?af68, body := .stmts ?bf68, scope := ?scf68, globals := 0, closure := [], defaults := .none, kwdefaults := .none } } : Obj) ::
    ({ cls := .type "code", data := .fields (List.toArray ((Value.str (Str.ofString "_law_row") 584) :: (Value.str (Str.ofString "_law_row") 585) :: (Value.str (Str.ofString "/claim/cut.py") 586) :: (Value.int 143 0) :: (Value.int 1 0) :: (Value.int 0 0) :: (Value.int 0 0) :: (Value.int 3 0) :: (Value.ref 158) :: (Value.bool true) :: (Value.int 181 0) :: (Value.ref 159) :: (Value.none) :: (Value.ref 160) :: (Value.ref 161) :: (Value.ref 162) :: (Value.int 590 0) :: (Value.int 143 0) :: (Value.str (Str.ofString "/claim/cut.py") 591) :: [])) } : Obj) ::
    ({ cls := .type "function", data := .func { name := ?nf68, qualname := (Str.ofString "_law_row"), params := ?af68, body := .stmts ?bf68, scope := ?scf68, globals := 3, closure := [], defaults := Value.none, kwdefaults := .none, pyModule := .str (Str.ofString "law_xg0063_01") 582, code := .ref 163, closureTuple := Value.none } } : Obj) ::
    ({ cls := Value.type "tuple", data := Data.seq #[] } : Obj) ::
    ({ cls := Value.none, data := Data.fields #[] } : Obj) ::
    ({ cls := Value.type "tuple", data := Data.seq #[Value.str (Str.ofString "drawn") 596, Value.str (Str.ofString "text") 597, Value.str (Str.ofString "x") 598] } : Obj) ::
    ({ cls := Value.type "tuple", data := Data.seq #[] } : Obj) ::
    ({ cls := .none, data := .func { name := ?nf69, qualname := (Str.ofString "_law_left"), params := ?af69, body := .stmts ?bf69, scope := ?scf69, globals := 0, closure := [], defaults := .none, kwdefaults := .none } } : Obj) ::
    ({ cls := .type "code", data := .fields (List.toArray ((Value.str (Str.ofString "_law_left") 593) :: (Value.str (Str.ofString "_law_left") 594) :: (Value.str (Str.ofString "/claim/cut.py") 595) :: (Value.int 151 0) :: (Value.int 1 0) :: (Value.int 0 0) :: (Value.int 0 0) :: (Value.int 3 0) :: (Value.ref 165) :: (Value.bool true) :: (Value.int 181 0) :: (Value.ref 166) :: (Value.none) :: (Value.ref 167) :: (Value.ref 168) :: (Value.ref 169) :: (Value.int 599 0) :: (Value.int 151 0) :: (Value.str (Str.ofString "/claim/cut.py") 600) :: [])) } : Obj) ::
    ({ cls := .type "function", data := .func { name := ?nf69, qualname := (Str.ofString "_law_left"), params := ?af69, body := .stmts ?bf69, scope := ?scf69, globals := 3, closure := [], defaults := Value.none, kwdefaults := .none, pyModule := .str (Str.ofString "law_xg0063_01") 582, code := .ref 170, closureTuple := Value.none } } : Obj) ::
    ({ cls := Value.type "tuple", data := Data.seq #[] } : Obj) ::
    ({ cls := Value.none, data := Data.fields #[] } : Obj) ::
    ({ cls := Value.type "tuple", data := Data.seq #[Value.str (Str.ofString "text") 605, Value.str (Str.ofString "first") 606, Value.str (Str.ofString "levels") 607, Value.str (Str.ofString "sign") 608, Value.str (Str.ofString "c") 609] } : Obj) ::
    ({ cls := Value.type "tuple", data := Data.seq #[] } : Obj) ::
    ({ cls := .none, data := .func { name := ?nf70, qualname := (Str.ofString "_law_light"), params := ?af70, body := .stmts ?bf70, scope := ?scf70, globals := 0, closure := [], defaults := .none, kwdefaults := .none } } : Obj) ::
    ({ cls := .type "code", data := .fields (List.toArray ((Value.str (Str.ofString "_law_light") 602) :: (Value.str (Str.ofString "_law_light") 603) :: (Value.str (Str.ofString "/claim/cut.py") 604) :: (Value.int 159 0) :: (Value.int 2 0) :: (Value.int 0 0) :: (Value.int 0 0) :: (Value.int 3 0) :: (Value.ref 172) :: (Value.bool true) :: (Value.int 181 0) :: (Value.ref 173) :: (Value.none) :: (Value.ref 174) :: (Value.ref 175) :: (Value.ref 176) :: (Value.int 610 0) :: (Value.int 159 0) :: (Value.str (Str.ofString "/claim/cut.py") 611) :: [])) } : Obj) ::
    ({ cls := .type "function", data := .func { name := ?nf70, qualname := (Str.ofString "_law_light"), params := ?af70, body := .stmts ?bf70, scope := ?scf70, globals := 3, closure := [], defaults := Value.none, kwdefaults := .none, pyModule := .str (Str.ofString "law_xg0063_01") 582, code := .ref 177, closureTuple := Value.none } } : Obj) ::
    ({ cls := Value.type "tuple", data := Data.seq #[] } : Obj) ::
    ({ cls := Value.none, data := Data.fields #[] } : Obj) ::
    ({ cls := Value.type "tuple", data := Data.seq (List.toArray ((Value.str (Str.ofString "text") 616) :: (Value.str (Str.ofString "first") 617) :: (Value.str (Str.ofString "red") 618) :: (Value.str (Str.ofString "green") 619) :: (Value.str (Str.ofString "blue") 620) :: (Value.str (Str.ofString "light") 621) :: (Value.str (Str.ofString "entries") 622) :: (Value.str (Str.ofString "c") 623) :: (Value.str (Str.ofString "callers") 624) :: [])) } : Obj) ::
    ({ cls := Value.type "tuple", data := Data.seq #[] } : Obj) ::
    ({ cls := .none, data := .func { name := ?nf71, qualname := (Str.ofString "_law_entries"), params := ?af71, body := .stmts ?bf71, scope := ?scf71, globals := 0, closure := [], defaults := .none, kwdefaults := .none } } : Obj) ::
    ({ cls := .type "code", data := .fields (List.toArray ((Value.str (Str.ofString "_law_entries") 613) :: (Value.str (Str.ofString "_law_entries") 614) :: (Value.str (Str.ofString "/claim/cut.py") 615) :: (Value.int 165 0) :: (Value.int 2 0) :: (Value.int 0 0) :: (Value.int 0 0) :: (Value.int 3 0) :: (Value.ref 179) :: (Value.bool true) :: (Value.int 181 0) :: (Value.ref 180) :: (Value.none) :: (Value.ref 181) :: (Value.ref 182) :: (Value.ref 183) :: (Value.int 625 0) :: (Value.int 165 0) :: (Value.str (Str.ofString "/claim/cut.py") 626) :: [])) } : Obj) ::
    ({ cls := .type "function", data := .func { name := ?nf71, qualname := (Str.ofString "_law_entries"), params := ?af71, body := .stmts ?bf71, scope := ?scf71, globals := 3, closure := [], defaults := Value.none, kwdefaults := .none, pyModule := .str (Str.ofString "law_xg0063_01") 582, code := .ref 184, closureTuple := Value.none } } : Obj) ::
    ({ cls := Value.type "tuple", data := Data.seq #[] } : Obj) ::
    ({ cls := Value.none, data := Data.fields #[] } : Obj) ::
    ({ cls := .none, data := .func { name := ?nf72, qualname := (Str.ofString "_law_owed"), params := ?af72, body := .stmts ?bf72, scope := ?scf72, globals := 0, closure := [], defaults := .none, kwdefaults := .none } } : Obj) ::
    ({ cls := .type "code", data := .fields (List.toArray ((Value.str (Str.ofString "_law_owed") 628) :: (Value.str (Str.ofString "_law_owed") 629) :: (Value.str (Str.ofString "/claim/cut.py") 630) :: (Value.int 175 0) :: (Value.int 1 0) :: (Value.int 0 0) :: (Value.int 0 0) :: (Value.int 3 0) :: (Value.ref 186) :: (Value.bool true) :: (Value.int 181 0) :: (Value.ref 187) :: (Value.none) :: (Value.none) :: (Value.none) :: (Value.ref 188) :: (Value.int 631 0) :: (Value.int 175 0) :: (Value.str (Str.ofString "/claim/cut.py") 632) :: [])) } : Obj) ::
    ({ cls := .type "function", data := .func { name := ?nf72, qualname := (Str.ofString "_law_owed"), params := ?af72, body := .stmts ?bf72, scope := ?scf72, globals := 3, closure := [], defaults := Value.none, kwdefaults := .none, pyModule := .str (Str.ofString "law_xg0063_01") 582, code := .ref 189, closureTuple := Value.none } } : Obj) ::
    ({ cls := Value.type "tuple", data := Data.seq #[] } : Obj) ::
    ({ cls := Value.none, data := Data.fields #[] } : Obj) ::
    ({ cls := Value.type "tuple", data := Data.seq #[Value.str (Str.ofString "entries") 637, Value.str (Str.ofString "c") 638, Value.str (Str.ofString "both") 639, Value.str (Str.ofString "fresh") 640] } : Obj) ::
    ({ cls := Value.type "tuple", data := Data.seq #[] } : Obj) ::
    ({ cls := .none, data := .func { name := ?nf73, qualname := (Str.ofString "_law_turned"), params := ?af73, body := .stmts ?bf73, scope := ?scf73, globals := 0, closure := [], defaults := .none, kwdefaults := .none } } : Obj) ::
    ({ cls := .type "code", data := .fields (List.toArray ((Value.str (Str.ofString "_law_turned") 634) :: (Value.str (Str.ofString "_law_turned") 635) :: (Value.str (Str.ofString "/claim/cut.py") 636) :: (Value.int 178 0) :: (Value.int 2 0) :: (Value.int 0 0) :: (Value.int 0 0) :: (Value.int 3 0) :: (Value.ref 191) :: (Value.bool true) :: (Value.int 181 0) :: (Value.ref 192) :: (Value.none) :: (Value.ref 193) :: (Value.ref 194) :: (Value.ref 195) :: (Value.int 641 0) :: (Value.int 178 0) :: (Value.str (Str.ofString "/claim/cut.py") 642) :: [])) } : Obj) ::
    ({ cls := .type "function", data := .func { name := ?nf73, qualname := (Str.ofString "_law_turned"), params := ?af73, body := .stmts ?bf73, scope := ?scf73, globals := 3, closure := [], defaults := Value.none, kwdefaults := .none, pyModule := .str (Str.ofString "law_xg0063_01") 582, code := .ref 196, closureTuple := Value.none } } : Obj) ::
    ({ cls := Value.type "tuple", data := Data.seq #[] } : Obj) ::
    ({ cls := Value.none, data := Data.fields #[] } : Obj) ::
    ({ cls := Value.type "tuple", data := Data.seq (List.toArray ((Value.str (Str.ofString "row") 647) :: (Value.str (Str.ofString "first") 648) :: (Value.str (Str.ofString "pile") 649) :: (Value.str (Str.ofString "entries") 650) :: (Value.str (Str.ofString "symbol") 651) :: (Value.str (Str.ofString "gone") 652) :: (Value.str (Str.ofString "piece") 653) :: (Value.str (Str.ofString "c") 654) :: (Value.str (Str.ofString "top") 655) :: [])) } : Obj) ::
    ({ cls := Value.type "tuple", data := Data.seq #[] } : Obj) ::
    ({ cls := .none, data := .func { name := ?nf74, qualname := (Str.ofString "_law_run"), params := ?af74, body := .stmts ?bf74, scope := ?scf74, globals := 0, closure := [], defaults := .none, kwdefaults := .none } } : Obj) ::
    ({ cls := .type "code", data := .fields (List.toArray ((Value.str (Str.ofString "_law_run") 644) :: (Value.str (Str.ofString "_law_run") 645) :: (Value.str (Str.ofString "/claim/cut.py") 646) :: (Value.int 182 0) :: (Value.int 2 0) :: (Value.int 0 0) :: (Value.int 0 0) :: (Value.int 3 0) :: (Value.ref 198) :: (Value.bool true) :: (Value.int 181 0) :: (Value.ref 199) :: (Value.none) :: (Value.ref 200) :: (Value.ref 201) :: (Value.ref 202) :: (Value.int 656 0) :: (Value.int 182 0) :: (Value.str (Str.ofString "/claim/cut.py") 657) :: [])) } : Obj) ::
    ({ cls := .type "function", data := .func { name := ?nf74, qualname := (Str.ofString "_law_run"), params := ?af74, body := .stmts ?bf74, scope := ?scf74, globals := 3, closure := [], defaults := Value.none, kwdefaults := .none, pyModule := .str (Str.ofString "law_xg0063_01") 582, code := .ref 203, closureTuple := Value.none } } : Obj) ::
    ({ cls := Value.type "tuple", data := Data.seq #[] } : Obj) ::
    ({ cls := Value.none, data := Data.fields #[] } : Obj) ::
    ({ cls := .none, data := .func { name := ?nf75, qualname := (Str.ofString "_law_told"), params := ?af75, body := .stmts ?bf75, scope := ?scf75, globals := 0, closure := [], defaults := .none, kwdefaults := .none } } : Obj) ::
    ({ cls := .type "code", data := .fields (List.toArray ((Value.str (Str.ofString "_law_told") 659) :: (Value.str (Str.ofString "_law_told") 660) :: (Value.str (Str.ofString "/claim/cut.py") 661) :: (Value.int 201 0) :: (Value.int 1 0) :: (Value.int 0 0) :: (Value.int 0 0) :: (Value.int 3 0) :: (Value.ref 205) :: (Value.bool true) :: (Value.int 181 0) :: (Value.ref 206) :: (Value.none) :: (Value.none) :: (Value.none) :: (Value.ref 207) :: (Value.int 662 0) :: (Value.int 201 0) :: (Value.str (Str.ofString "/claim/cut.py") 663) :: [])) } : Obj) ::
    ({ cls := .type "function", data := .func { name := ?nf75, qualname := (Str.ofString "_law_told"), params := ?af75, body := .stmts ?bf75, scope := ?scf75, globals := 3, closure := [], defaults := Value.none, kwdefaults := .none, pyModule := .str (Str.ofString "law_xg0063_01") 582, code := .ref 208, closureTuple := Value.none } } : Obj) ::
    ({ cls := Value.type "tuple", data := Data.seq #[] } : Obj) ::
    ({ cls := Value.none, data := Data.fields #[] } : Obj) ::
    ({ cls := .none, data := .func { name := ?nf76, qualname := (Str.ofString "law"), params := ?af76, body := .stmts ?bf76, scope := ?scf76, globals := 0, closure := [], defaults := .none, kwdefaults := .none } } : Obj) ::
    ({ cls := .type "code", data := .fields (List.toArray ((Value.str (Str.ofString "law") 665) :: (Value.str (Str.ofString "law") 666) :: (Value.str (Str.ofString "/claim/cut.py") 667) :: (Value.int 218 0) :: (Value.int 1 0) :: (Value.int 0 0) :: (Value.int 0 0) :: (Value.int 3 0) :: (Value.ref 210) :: (Value.bool true) :: (Value.int 181 0) :: (Value.ref 211) :: (Value.none) :: (Value.none) :: (Value.none) :: (Value.ref 212) :: (Value.int 668 0) :: (Value.int 218 0) :: (Value.str (Str.ofString "/claim/cut.py") 669) :: [])) } : Obj) ::
    ({ cls := .type "function", data := .func { name := ?nf76, qualname := (Str.ofString "law"), params := ?af76, body := .stmts ?bf76, scope := ?scf76, globals := 3, closure := [], defaults := Value.none, kwdefaults := .none, pyModule := .str (Str.ofString "law_xg0063_01") 582, code := .ref 213, closureTuple := Value.none } } : Obj)
    :: [] : List Obj)) ?h
  case h => exact rfl
noncomputable def keys63 : List Addr := [2, 3, 27, 28, 29, 32, 37, 38, 44, 45, 51, 52, 53, 59, 60, 61, 67, 68, 74, 75, 81, 82, 98, 104, 105, 106, 107, 108, 109, 110, 118, 119, 125, 126, 132, 133, 134, 142, 143, 149, 150, 156, 157, 163, 164, 170, 171, 177, 178, 184, 185, 189, 190, 196, 197, 203, 204, 208, 209, 213, 214]
noncomputable def d63 : DefRec := by
  refine (fun (_ : PySem.Challenge.pw_xg0063_01 = (Program.mk (Module.mk (Stmt.FunctionDef ?nf0 ?af0 ?bf0 ?df0 ?rf0 ?tpf0 ?scf0 ?tsf0 ?bdf0 ?pf0 :: ?s1 :: ?s2 :: ?s3 :: Stmt.FunctionDef ?nf4 ?af4 ?bf4 ?df4 ?rf4 ?tpf4 ?scf4 ?tsf4 ?bdf4 ?pf4 :: ?s5 :: ?s6 :: Stmt.ClassDef ?cn ?cb ?ck [Stmt.FunctionDef ?nm0 ?am0 ?bm0 ?dm0 ?rm0 ?tpm0 ?scm0 ?tsm0 ?bdm0 ?pm0, Stmt.FunctionDef ?nm1 ?am1 ?bm1 ?dm1 ?rm1 ?tpm1 ?scm1 ?tsm1 ?bdm1 ?pm1, Stmt.FunctionDef ?nm2 ?am2 ?bm2 ?dm2 ?rm2 ?tpm2 ?scm2 ?tsm2 ?bdm2 ?pm2, Stmt.FunctionDef ?nm3 ?am3 ?bm3 ?dm3 ?rm3 ?tpm3 ?scm3 ?tsm3 ?bdm3 ?pm3, Stmt.FunctionDef ?nm4 ?am4 ?bm4 ?dm4 ?rm4 ?tpm4 ?scm4 ?tsm4 ?bdm4 ?pm4, Stmt.FunctionDef ?nm5 ?am5 ?bm5 ?dm5 ?rm5 ?tpm5 ?scm5 ?tsm5 ?bdm5 ?pm5, Stmt.FunctionDef ?nm6 ?am6 ?bm6 ?dm6 ?rm6 ?tpm6 ?scm6 ?tsm6 ?bdm6 ?pm6, Stmt.FunctionDef ?nm7 ?am7 ?bm7 ?dm7 ?rm7 ?tpm7 ?scm7 ?tsm7 ?bdm7 ?pm7, Stmt.FunctionDef ?nm8 ?am8 ?bm8 ?dm8 ?rm8 ?tpm8 ?scm8 ?tsm8 ?bdm8 ?pm8] ?cd ?ct ?cs ?cts ?cbd ?csa ?cp :: ?s8 :: Stmt.FunctionDef ?nf9 ?af9 ?bf9 ?df9 ?rf9 ?tpf9 ?scf9 ?tsf9 ?bdf9 ?pf9 :: Stmt.FunctionDef ?nf10 ?af10 ?bf10 ?df10 ?rf10 ?tpf10 ?scf10 ?tsf10 ?bdf10 ?pf10 :: Stmt.FunctionDef ?nf11 ?af11 ?bf11 ?df11 ?rf11 ?tpf11 ?scf11 ?tsf11 ?bdf11 ?pf11 :: ?s12 :: ?s13 :: ?s14 :: ?s15 :: ?s16 :: ?s17 :: ?s18 :: ?s19 :: ?s20 :: ?s21 :: ?s22 :: ?s23 :: ?s24 :: ?s25 :: ?s26 :: ?s27 :: ?s28 :: ?s29 :: ?s30 :: ?s31 :: ?s32 :: ?s33 :: ?s34 :: ?s35 :: ?s36 :: ?s37 :: ?s38 :: ?s39 :: ?s40 :: ?s41 :: ?s42 :: ?s43 :: ?s44 :: ?s45 :: ?s46 :: ?s47 :: ?s48 :: ?s49 :: ?s50 :: ?s51 :: ?s52 :: ?s53 :: ?s54 :: ?s55 :: ?s56 :: ?s57 :: ?s58 :: ?s59 :: ?s60 :: ?s61 :: ?s62 :: ?s63 :: Stmt.FunctionDef ?nf64 ?af64 ?bf64 ?df64 ?rf64 ?tpf64 ?scf64 ?tsf64 ?bdf64 ?pf64 :: Stmt.FunctionDef ?nf65 ?af65 ?bf65 ?df65 ?rf65 ?tpf65 ?scf65 ?tsf65 ?bdf65 ?pf65 :: Stmt.FunctionDef ?nf66 ?af66 ?bf66 ?df66 ?rf66 ?tpf66 ?scf66 ?tsf66 ?bdf66 ?pf66 :: ?s67 :: Stmt.FunctionDef ?nf68 ?af68 ?bf68 ?df68 ?rf68 ?tpf68 ?scf68 ?tsf68 ?bdf68 ?pf68 :: Stmt.FunctionDef ?nf69 ?af69 ?bf69 ?df69 ?rf69 ?tpf69 ?scf69 ?tsf69 ?bdf69 ?pf69 :: Stmt.FunctionDef ?nf70 ?af70 ?bf70 ?df70 ?rf70 ?tpf70 ?scf70 ?tsf70 ?bdf70 ?pf70 :: Stmt.FunctionDef ?nf71 ?af71 ?bf71 ?df71 ?rf71 ?tpf71 ?scf71 ?tsf71 ?bdf71 ?pf71 :: Stmt.FunctionDef ?nf72 ?af72 ?bf72 ?df72 ?rf72 ?tpf72 ?scf72 ?tsf72 ?bdf72 ?pf72 :: Stmt.FunctionDef ?nf73 ?af73 ?bf73 ?df73 ?rf73 ?tpf73 ?scf73 ?tsf73 ?bdf73 ?pf73 :: Stmt.FunctionDef ?nf74 ?af74 ?bf74 ?df74 ?rf74 ?tpf74 ?scf74 ?tsf74 ?bdf74 ?pf74 :: Stmt.FunctionDef ?nf75 ?af75 ?bf75 ?df75 ?rf75 ?tpf75 ?scf75 ?tsf75 ?bdf75 ?pf75 :: Stmt.FunctionDef ?nf76 ?af76 ?bf76 ?df76 ?rf76 ?tpf76 ?scf76 ?tsf76 ?bdf76 ?pf76 :: []) ?msc ?mfa ?mfi ?mmo) ?pmo ?ppa ?pab ?pha ?pgi : Program)) => ({ name := ?nf76, params := ?af76, body := ?bf76, scope := ?scf76, pos := ?pf76 } : DefRec)) ?h
  case h => exact rfl
theorem keys_eq (P : Params) : keys63 = (K63 P).map (·.1) := by kernel_rfl
/-- the same with texts written out -/
noncomputable def pwS : { p : Program // pw = p } := by
  refine ⟨?k, ?h⟩
  case h => (unfold pw PySem.Challenge.pw_xg0063_01; dsimp only [t0, t1, t2, t3, t4, t5, t6, t7, t8, t9, t10, t11, t12, t13, t14, t15, t16, t17, t18, t19, t20, t21, t22, t23, t24, t25, t26, t27, t28, t29, t30, t31, t32, t33, t34, t35, t36, t37, t38, t39, t40, t41, t42, t43, t44, t45, t46, t47, t48, t49, t50, t51, t52, t53, t54, t55, t56, t57, t58, t59, t60, t61, t62, t63, t64, t65, t66, t67, t68, t69, t70, t71, t72, t73, t74, t75, t76, t77, t78, t79, t80, t81, t82, t83, t84, t85, t86, t87, t88, t89, t90, t91, t92, t93, t94, t95, t96, t97, t98, t99, t100, t101, t102, t103, t104, t105, t106, t107, t108, t109, t110, t111, t112, t113, t114, t115, t116, t117, t118, t119, t120, t121, t122, t123, t124, t125, t126, t127, t128, t129, t130, t131, t132, t133, t134, t135, t136, t137, t138, t139, t140, t141, t142, t143, t144, t145, t146, t147, t148, t149, t150, t151, t152, t153, t154, t155, t156, t157, t158, t159, t160, t161, t162, t163, t164, t165, t166, t167, t168, t169, t170, t171, t172, t173, t174, t175, t176, t177, t178, t179, t180, t181, t182, t183, t184, t185, t186, t187, t188, t189, t190, t191, t192, t193, t194, t195, t196, t197, t198, t199, t200, t201, t202, t203, t204, t205, t206, t207, t208, t209, t210, t211, t212, t213, t214, t215, t216, t217, t218, t219, t220, t221, t222, t223, t224, t225, t226, t227, t228, t229, t230, t231, t232, t233, t234, t235, t236, t237, t238, t239, t240, t241, t242, t243, t244, t245, t246, t247, t248, t249, t250, t251, t252, t253, t254, t255]; exact rfl)
noncomputable def viewS : { p : Program // view63 = p } := by
  refine ⟨?k, ?h⟩
  case h => (unfold view63; dsimp only [t0, t1, t2, t3, t4, t5, t6, t7, t8, t9, t10, t11, t12, t13, t14, t15, t16, t17, t18, t19, t20, t21, t22, t23, t24, t25, t26, t27, t28, t29, t30, t31, t32, t33, t34, t35, t36, t37, t38, t39, t40, t41, t42, t43, t44, t45, t46, t47, t48, t49, t50, t51, t52, t53, t54, t55, t56, t57, t58, t59, t60, t61, t62, t63, t64, t65, t66, t67, t68, t69, t70, t71, t72, t73, t74, t75, t76, t77, t78, t79, t80, t81, t82, t83, t84, t85, t86, t87, t88, t89, t90, t91, t92, t93, t94, t95, t96, t97, t98, t99, t100, t101, t102, t103, t104, t105, t106, t107, t108, t109, t110, t111, t112, t113, t114, t115, t116, t117, t118, t119, t120, t121, t122, t123, t124, t125, t126, t127, t128, t129, t130, t131, t132, t133, t134, t135, t136, t137, t138, t139, t140, t141, t142, t143, t144, t145, t146, t147, t148, t149, t150, t151, t152, t153, t154, t155, t156, t157, t158, t159, t160, t161, t162, t163, t164, t165, t166, t167, t168, t169, t170, t171, t172, t173, t174, t175, t176, t177, t178, t179, t180, t181, t182, t183, t184, t185, t186, t187, t188, t189, t190, t191, t192, t193, t194, t195, t196, t197, t198, t199, t200, t201, t202, t203, t204, t205, t206, t207, t208, t209, t210, t211, t212, t213, t214, t215, t216, t217, t218, t219, t220, t221, t222, t223, t224, t225, t226, t227, t228, t229, t230, t231, t232, t233, t234, t235, t236, t237, t238, t239, t240, t241, t242, t243, t244, t245, t246, t247, t248, t249, t250, t251, t252, t253, t254, t255]; exact rfl)
noncomputable def objsS : { K : Params → List Obj // objs63 = K } := by
  refine ⟨?k, ?h⟩
  case h => (unfold objs63; dsimp only [t0, t1, t2, t3, t4, t5, t6, t7, t8, t9, t10, t11, t12, t13, t14, t15, t16, t17, t18, t19, t20, t21, t22, t23, t24, t25, t26, t27, t28, t29, t30, t31, t32, t33, t34, t35, t36, t37, t38, t39, t40, t41, t42, t43, t44, t45, t46, t47, t48, t49, t50, t51, t52, t53, t54, t55, t56, t57, t58, t59, t60, t61, t62, t63, t64, t65, t66, t67, t68, t69, t70, t71, t72, t73, t74, t75, t76, t77, t78, t79, t80, t81, t82, t83, t84, t85, t86, t87, t88, t89, t90, t91, t92, t93, t94, t95, t96, t97, t98, t99, t100, t101, t102, t103, t104, t105, t106, t107, t108, t109, t110, t111, t112, t113, t114, t115, t116, t117, t118, t119, t120, t121, t122, t123, t124, t125, t126, t127, t128, t129, t130, t131, t132, t133, t134, t135, t136, t137, t138, t139, t140, t141, t142, t143, t144, t145, t146, t147, t148, t149, t150, t151, t152, t153, t154, t155, t156, t157, t158, t159, t160, t161, t162, t163, t164, t165, t166, t167, t168, t169, t170, t171, t172, t173, t174, t175, t176, t177, t178, t179, t180, t181, t182, t183, t184, t185, t186, t187, t188, t189, t190, t191, t192, t193, t194, t195, t196, t197, t198, t199, t200, t201, t202, t203, t204, t205, t206, t207, t208, t209, t210, t211, t212, t213, t214, t215, t216, t217, t218, t219, t220, t221, t222, t223, t224, t225, t226, t227, t228, t229, t230, t231, t232, t233, t234, t235, t236, t237, t238, t239, t240, t241, t242, t243, t244, t245, t246, t247, t248, t249, t250, t251, t252, t253, t254, t255]; exact rfl)
noncomputable def looseS : { l : List Str // loose63 = l } := by
  refine ⟨?k, ?h⟩
  case h => (unfold loose63; dsimp only [t0, t1, t2, t3, t4, t5, t6, t7, t8, t9, t10, t11, t12, t13, t14, t15, t16, t17, t18, t19, t20, t21, t22, t23, t24, t25, t26, t27, t28, t29, t30, t31, t32, t33, t34, t35, t36, t37, t38, t39, t40, t41, t42, t43, t44, t45, t46, t47, t48, t49, t50, t51, t52, t53, t54, t55, t56, t57, t58, t59, t60, t61, t62, t63, t64, t65, t66, t67, t68, t69, t70, t71, t72, t73, t74, t75, t76, t77, t78, t79, t80, t81, t82, t83, t84, t85, t86, t87, t88, t89, t90, t91, t92, t93, t94, t95, t96, t97, t98, t99, t100, t101, t102, t103, t104, t105, t106, t107, t108, t109, t110, t111, t112, t113, t114, t115, t116, t117, t118, t119, t120, t121, t122, t123, t124, t125, t126, t127, t128, t129, t130, t131, t132, t133, t134, t135, t136, t137, t138, t139, t140, t141, t142, t143, t144, t145, t146, t147, t148, t149, t150, t151, t152, t153, t154, t155, t156, t157, t158, t159, t160, t161, t162, t163, t164, t165, t166, t167, t168, t169, t170, t171, t172, t173, t174, t175, t176, t177, t178, t179, t180, t181, t182, t183, t184, t185, t186, t187, t188, t189, t190, t191, t192, t193, t194, t195, t196, t197, t198, t199, t200, t201, t202, t203, t204, t205, t206, t207, t208, t209, t210, t211, t212, t213, t214, t215, t216, t217, t218, t219, t220, t221, t222, t223, t224, t225, t226, t227, t228, t229, t230, t231, t232, t233, t234, t235, t236, t237, t238, t239, t240, t241, t242, t243, t244, t245, t246, t247, t248, t249, t250, t251, t252, t253, t254, t255]; exact rfl)

end Mine
end

section
open PySem PySem.W PyProof.Rows PySem.Calls PySem.Spec
set_option maxRecDepth 100000
namespace Mine
abbrev Led := List (Addr × Obj)
/-- a contract: the call comes back, all that stood stands, what it made is told by Out -/
def Does (w : World) (mean : ExcName → Option Value) (mg mb : Str → Option Value) (f : Addr) (vs : List Value) (ex : Led) (room : Nat) (Out : Led → Value → Prop) : Prop :=
  ∀ (dp un : Nat) (gd : Option (List Code)) (cn : Str) (cs : Scope) (a : Addr) (ccd : Value) (cl : List (Str × Addr)) (outer : List Env) (A₀ : Around) (base h₀ : Heap) (L : Addr) (m : Str → Option Value) (news : Led) (s : Shared) (Q E : Value → Shared → Prop),
    Below A₀ base outer h₀ → Fr h₀ L s.heap m → (K63 w.params).In h₀ → News h₀ L s.heap news →
    Top view63 (looseW view63 [Str.ofString "ONE_THIRD", Str.ofString "ONE_SIXTH", Str.ofString "_Accumulator", Str.ofString "EXACT_TOKEN_TYPES"]) mean mg mb h₀ →
    cs.kind = .function → (∀ p ∈ ex, p ∈ news) → dp + room < recursionLimit → un + 8 * room < cLine →
    (∀ r tl h' tk', Fr h₀ L h' m → News h₀ L h' (tl ++ news) → (∀ p ∈ tl, ∀ q ∈ news, p.1 ≠ q.1) → Out tl r → Q r { s with heap := h', toks := tk' }) →
    wpAny (model Challenge.rw_xg0063_01.row.prog w) (ktrTop dp un gd cn cs L a ccd cl outer) (call (.ref f) vs) Q E s

section
variable {prog : Program} {w : World} {A₀ A : Around} {s : Shared} {base h₀ : Heap} {outer : List Env} {L : Addr} {m mg mb : Str → Option Value} {env : Env} {ex : Led} {K : Frag} {p : Program} {loose : List Str} {mean : ExcName → Option Value}
  {R : Result → Shared → Prop} {name qual : Str} {params : Arguments} {body : List Stmt} {scope : Scope} {dV kV doc pm cdv ct oc : Value} {an od : Option Addr} {osl : Array (Option Value)} {f : Addr} {args : Args} {binds : List (Str × Value)}
/-- a def's body entered; only `ex` may be turned in it, all else that stands is base -/
theorem enterP (B : Below A₀ base outer h₀) (F : Fr h₀ L s.heap m) (X₀ : K.In h₀) (N : News h₀ L s.heap ex) (T : Top p loose mean mg mb h₀) (hA : A.frames = some (env :: outer)) (hf : env.frame = some L) (hke : env.scope.kind = .function)
    (ho : K.lookup f = some ⟨oc, od, .func (fnOf name qual params body scope dV kV doc pm an cdv ct), osl⟩) (hcd : codeIn K cdv qual = true) (hroom : A.depth < recursionLimit)
    (hbind : BindsTo s (fnOf name qual params body scope dV kV doc pm an cdv ct) args binds) (hloc : ∀ y ∈ binds, scope.names.lookup y.1 = some .local)
    (h : ∀ g L' h₁ tk₁, (∀ b o, s.heap.get? b = some o → b ∉ ex.map (·.1) → g.get? b = some o) → Fr h₀ L g m → Fr g L' h₁ (fun y => binds.reverse.lookup y) → News g L' h₁ ex → Below A base (env :: outer) g → K.In g → Top p loose mean mg mb g →
      (∀ q ∈ ex, q.1 < L') →
      wpAny (model prog w) (A.deeper (envOf qual scope L' f cdv)) (execs body (envOf qual scope L' f cdv))
        (fun fl s' => LeaveK h₀ L m g R (match fl with | .ret v => v | _ => .none) s')
        (fun e s' => wpAny (model prog w) (A.deeper (envOf qual scope L' f cdv)) (leaving (envOf qual scope L' f cdv) e) (fun _ s'' => R (.error e) s'') (fun e' s'' => R (.error e') s'') s')
        { s with heap := h₁, toks := tk₁ })
    (hco : scope.isCoroutine = false) (hgen : scope.isGenerator = false) (hk : scope.kind = .function)
    (hcell : ∀ x ∈ scope.names, x.2 ≠ .cell) : codeAny (model prog w) A (.call (.ref f) args) R s := by
  obtain ⟨FG, BG, st, lv⟩ := groundX (R := R) B F N hA hf hke
  have hfo := X₀.keeps F.keep _ _ ho
  refine codeAny_call_def (fd := fnOf name qual params body scope dV kV doc pm an cdv ct) (body := body) (binds := binds) hroom hfo rfl (T.nolimit.keeps F.keep) (codeRec_of (X₀.keeps F.keep) hcd) rfl hbind hcell hloc (fun h₁ hns hk₁ => ?_) hco hgen hk
  have FL : Fr (hideAll s.heap (ex.map (·.1))) s.heap.objs.size h₁ (fun y => binds.reverse.lookup y) := ⟨hns, fun b o e => hk₁ b o (of_hideAll _ e), Nat.le_of_eq (hideAll_size _ _)⟩
  have NL : News (hideAll s.heap (ex.map (·.1))) s.heap.objs.size h₁ ex := fun q hq => ⟨hk₁ _ _ (N q hq).1, Nat.ne_of_lt (Heap.lt_size (N q hq).1), hideAll_none _ (List.mem_map_of_mem hq)⟩
  refine wpAny_mono (h _ _ h₁ _ (fun b o e hb => hideAll_get _ e hb) FG FL NL BG (X₀.keeps st) (T.keeps st) (fun q hq => Heap.lt_size (N q hq).1)) (fun fl s' hl => lv _ _ hl) fun _ _ y => y
end

/-- the ledger behind a call entered by enterP: what stood, and what was made -/
theorem newsBack {h₀ g h h' : Heap} {L L' : Addr} {m' : Str → Option Value} {ex all tl news : Led} (N : News h₀ L h news) (hg : ∀ b o, h.get? b = some o → b ∉ ex.map (·.1) → g.get? b = some o)
    (F' : Fr g L' h' m') (kN : News h₀ L h' all) (hex : ∀ q ∈ ex, q ∈ all) (hexn : ∀ q ∈ ex, q ∈ news) (htl : ∀ q ∈ tl, q ∈ all) : News h₀ L h' (tl ++ news) := by
  intro q hq
  rcases List.mem_append.mp hq with hq | hq
  · exact kN q (htl q hq)
  · refine ⟨?_, (N q hq).2⟩
    by_cases hb : q.1 ∈ ex.map (·.1)
    · obtain ⟨p, hp, e⟩ := List.mem_map.mp hb
      have h1 := (N p (hexn p hp)).1
      have h2 := (N q hq).1
      have h3 := (kN p (hex p hp)).1
      rw [e] at h1 h3
      rw [h1] at h2
      rw [h3, h2]
    · exact F'.keep _ _ (hg _ _ (N q hq).1 hb)
theorem apartBack {h₀ g h h' : Heap} {L L' : Addr} {ex all tl news : Led} (N : News h₀ L h news) (hg : ∀ b o, h.get? b = some o → b ∉ ex.map (·.1) → g.get? b = some o)
    (N' : News g L' h' all) (htl : ∀ q ∈ tl, q ∈ all) (hne : ∀ p ∈ tl, ∀ q ∈ ex, p.1 ≠ q.1) : ∀ p ∈ tl, ∀ q ∈ news, p.1 ≠ q.1 := by
  intro p hp q hq e
  by_cases hb : q.1 ∈ ex.map (·.1)
  · obtain ⟨x, hx, e'⟩ := List.mem_map.mp hb
    exact hne p hp x hx (e.trans e'.symm)
  · have h1 := hg _ _ (N q hq).1 hb
    have h2 := (N' p (htl p hp)).2.2
    rw [e, h1] at h2
    cases h2

/-- a dict of the three names -/
def DictIs (w : World) (o : Obj) (r g b : Int) : Prop :=
  ∃ kvs, Obj.IsDictOf (strKind Challenge.rw_xg0063_01.row.prog w) o kvs ∧ PyProof.V.FlatPairs PyData.str kvs [(PyData.str (Str.ofString "red"), PyData.int r), (PyData.str (Str.ofString "green"), PyData.int g), (PyData.str (Str.ofString "blue"), PyData.int b)]
end Mine
namespace Mine
theorem Does.use {w : World} {mean : ExcName → Option Value} {mg mb : Str → Option Value} {f : Addr} {vs : List Value} {ex : Led} {room : Nat} {Out : Led → Value → Prop} (h : Does w mean mg mb f vs ex room Out)
    {dp un : Nat} {gd : Option (List Code)} {cn : Str} {cs : Scope} {a : Addr} {ccd : Value} {cl : List (Str × Addr)} {outer : List Env} {A₀ : Around} {base h₀ : Heap} {L : Addr} {m : Str → Option Value} {news : Led} {s : Shared} {Q E : Value → Shared → Prop}
    (B : Below A₀ base outer h₀) (F : Fr h₀ L s.heap m) (X : (K63 w.params).In h₀) (N : News h₀ L s.heap news)
    (T : Top view63 (looseW view63 [Str.ofString "ONE_THIRD", Str.ofString "ONE_SIXTH", Str.ofString "_Accumulator", Str.ofString "EXACT_TOKEN_TYPES"]) mean mg mb h₀)
    (hk : cs.kind = .function) (hex : ∀ p ∈ ex, p ∈ news) (hd : dp + room < recursionLimit) (hu : un + 8 * room < cLine)
    (ret : ∀ r tl h' tk', Fr h₀ L h' m → News h₀ L h' (tl ++ news) → (∀ p ∈ tl, ∀ q ∈ news, p.1 ≠ q.1) → Out tl r → Q r { s with heap := h', toks := tk' }) :
    wpAny (model Challenge.rw_xg0063_01.row.prog w) (ktrTop dp un gd cn cs L a ccd cl outer) (call (.ref f) vs) Q E s :=
  h dp un gd cn cs a ccd cl outer A₀ base h₀ L m news s Q E B F X N T hk hex hd hu ret
/-- a tuple's object -/
abbrev tupOf (vs : List Value) (n : Nat) : Obj := { cls := .type "tuple", data := .seq vs.toArray n }
/-- an entry: four ints and the callers, in the ledger -/
def EntryIs (w : World) (news : Led) (v : Value) (cc nc tt ct r g b : Int) : Prop :=
  ∃ (t d : Addr) (o : Obj) (n : Nat) (k1 k2 k3 k4 : Tok), v = .ref t ∧ (t, tupOf [.int cc k1, .int nc k2, .int tt k3, .int ct k4, .ref d] n) ∈ news ∧ (d, o) ∈ news ∧ (d == sysModules) = false ∧ DictIs w o r g b
theorem EntryIs.mono {w : World} {news news' : Led} {v : Value} {cc nc tt ct r g b : Int} (h : EntryIs w news v cc nc tt ct r g b) (hs : ∀ p ∈ news, p ∈ news') : EntryIs w news' v cc nc tt ct r g b := by
  obtain ⟨t, d, o, n, k1, k2, k3, k4, h1, h2, h3, h4, h5⟩ := h
  exact ⟨t, d, o, n, k1, k2, k3, k4, h1, hs _ h2, hs _ h3, h4, h5⟩
/-- the ledger made longer by facts that it bears -/
theorem newsMore {h₀ h : Heap} {L : Addr} {news more : Led} (N : News h₀ L h news) (hm : ∀ p ∈ more, p ∈ news) : News h₀ L h (more ++ news) := fun p hp => (List.mem_append.mp hp).elim (fun q => N p (hm p q)) (N p)
/-- a shorter ledger -/
theorem newsPick {h₀ h : Heap} {L : Addr} {news less : Led} (N : News h₀ L h news) (hm : ∀ p ∈ less, p ∈ news) : News h₀ L h less := fun p hp => N p (hm p hp)
noncomputable def NeAll (d : Addr) : Led → Prop
  | [] => True
  | p :: r => @Ne Nat d p.1 ∧ NeAll d r
theorem neAll_of {d : Addr} : ∀ {news : Led}, (∀ q ∈ news, d ≠ q.1) → NeAll d news
  | [], _ => trivial
  | p :: _, h => ⟨h p (.head _), neAll_of fun q hq => h q (.tail _ hq)⟩
theorem apartOf {tl news : Led} (h : ∀ p ∈ tl, ∀ q ∈ news, p.1 ≠ q.1) {d : Addr} {o : Obj} (hm : (d, o) ∈ tl) : NeAll d news := neAll_of fun q hq => h _ hm q hq
end Mine
namespace Mine
section
variable {prog : Program} {w : World} {A₀ A : Around} {s : Shared} {base h₀ : Heap} {outer : List Env} {L : Addr} {m mg mb : Str → Option Value} {env : Env} {ex : Led} {K : Frag} {p : Program} {loose : List Str} {mean : ExcName → Option Value}
  {R : Result → Shared → Prop} {name qual : Str} {params : Arguments} {body : List Stmt} {scope : Scope} {dV kV doc pm cdv ct oc : Value} {an od : Option Addr} {osl : Array (Option Value)} {f : Addr} {args : Args} {binds : List (Str × Value)}
/-- the same for a def whose locals are captured -/
theorem enterC (B : Below A₀ base outer h₀) (F : Fr h₀ L s.heap m) (X₀ : K.In h₀) (N : News h₀ L s.heap ex) (T : Top p loose mean mg mb h₀) (hA : A.frames = some (env :: outer)) (hf : env.frame = some L) (hke : env.scope.kind = .function)
    (ho : K.lookup f = some ⟨oc, od, .func (fnOf name qual params body scope dV kV doc pm an cdv ct), osl⟩) (hcd : codeIn K cdv qual = true) (hroom : A.depth < recursionLimit)
    (hbind : BindsTo s (fnOf name qual params body scope dV kV doc pm an cdv ct) args binds) (hkind : (binds.all fun y => scope.names.lookup y.1 == some .local || scope.names.lookup y.1 == some .cell) = true)
    (hnd : ((cellsFrom 0 scope.names []).map (·.1)).Nodup)
    (h : ∀ g L' h₁ tk₁ cells, (∀ b o, s.heap.get? b = some o → b ∉ ex.map (·.1) → g.get? b = some o) → Fr h₀ L g m → Fr g L' h₁ (bindL (envOfC qual scope L' f cdv).kindOf binds fun _ => none) → News g L' h₁ (cells ++ ex) →
      CellsAre (bindC (envOfC qual scope L' f cdv).kindOf binds fun _ => none) (cellsFrom (L' + 1) scope.names []) cells → Below A base (env :: outer) g → K.In g → Top p loose mean mg mb g → (∀ q ∈ ex, q.1 < L') →
      wpAny (model prog w) (A.deeper (envOfC qual scope L' f cdv)) (execs body (envOfC qual scope L' f cdv))
        (fun fl s' => LeaveK h₀ L m g R (match fl with | .ret v => v | _ => .none) s')
        (fun e s' => wpAny (model prog w) (A.deeper (envOfC qual scope L' f cdv)) (leaving (envOfC qual scope L' f cdv) e) (fun _ s'' => R (.error e) s'') (fun e' s'' => R (.error e') s'') s')
        { s with heap := h₁, toks := tk₁ })
    (hco : scope.isCoroutine = false) (hgen : scope.isGenerator = false) (hk : scope.kind = .function) : codeAny (model prog w) A (.call (.ref f) args) R s := by
  obtain ⟨FG, BG, st, lv⟩ := groundX (R := R) B F N hA hf hke
  have hfo := X₀.keeps F.keep _ _ ho
  refine codeAny_call_function hroom hfo rfl hco hgen rfl (codeRec_of (X₀.keeps F.keep) hcd) (hbind _ _ _ _ ?_)
  refine wpAny_newFunctionEnv_cells hk (kindsX hkind _) fun env' he s' x => ?_
  subst he
  refine ⟨(T.nolimit.keeps F.keep).keeps x.toInCall.keep, codeAny_func ?_⟩
  obtain ⟨h₁, tk, rfl, _⟩ := x.done
  have hk₁ := x.toInCall.keep
  obtain ⟨cells, NC, Y⟩ := Cl.news (h₀ := s.heap) (Nat.le_refl _) fun n c hm => ⟨x.cell n c (lookup_of_mem_nodup (cellsFrom_names scope.names 0 (s.heap.objs.size + 1) [] [] rfl ▸ hnd) hm), x.above n c hm⟩
  have NL : News (hideAll s.heap (ex.map (·.1))) s.heap.objs.size h₁ (cells ++ ex) := fun q hq => by
    rcases List.mem_append.mp hq with hq | hq
    · refine ⟨(NC q hq).1, (NC q hq).2.1, ?_⟩
      cases e : (hideAll s.heap (ex.map (·.1))).get? q.1 with
      | none => rfl
      | some o => have z := of_hideAll _ e; rw [(NC q hq).2.2] at z; cases z
    · exact ⟨hk₁ _ _ (N q hq).1, Nat.ne_of_lt (Heap.lt_size (N q hq).1), hideAll_none _ (List.mem_map_of_mem hq)⟩
  exact wpAny_mono (h _ s.heap.objs.size h₁ tk cells (fun b o e hb => hideAll_get _ e hb) FG ⟨x.toInCall.ns, fun b o e => hk₁ b o (of_hideAll _ e), Nat.le_of_eq (hideAll_size _ _)⟩ NL Y BG (X₀.keeps st) (T.keeps st) (fun q hq => Heap.lt_size (N q hq).1)) (fun fl s' hl => lv _ _ hl) fun _ _ y => y
end
end Mine
namespace Mine
theorem neAll_at {d : Addr} {news : Led} (h : NeAll d news) : ∀ q ∈ news, d ≠ q.1 := by
  induction news with
  | nil => intro q hq; cases hq
  | cons p r ih =>
    intro q hq
    rcases List.mem_cons.mp hq with e | e
    · rw [e]; exact h.1
    · exact ih h.2 q e
theorem neSub {d : Addr} {big small : Led} (h : NeAll d big) (hs : ∀ q ∈ small, q ∈ big) : ∀ q ∈ small, d ≠ q.1 := fun q hq => neAll_at h q (hs q hq)
end Mine
end

section
open PySem PySem.W PyProof.Rows PySem.Calls PySem.Spec
set_option maxRecDepth 100000
namespace Mine
theorem ltS {h : Heap} {b : Addr} {o : Obj} (e : h.get? b = some o) : @LT.lt Nat _ b h.objs.size := Heap.lt_size e
theorem neN {a b : Nat} (h : a < b ∨ b < a) : a ≠ b := by omega
section
variable {prog : Program} {w : World} {A : Around} {E : Value → Shared → Prop} {s : Shared} {env : Env} {h₀ : Heap} {L : Addr} {m : Str → Option Value} {news : Led}
/-- what a dict made from another's keys holds -/
def keyStr (v : Value) (k : Str) : Prop := ∃ t, v = .str k t
/-- a dict comprehension over the keys of a dict of texts -/
theorem compKeys {kx vx iter : Expr} {x : Str} {px : Pos} {scope : Scope} {cl : List (Str × Addr)} {pos : Pos} {Q : Value → Shared → Prop} {d : Addr} {o : Obj} {kvs : List (Str × Value)} (FV : Str → Value → Prop)
    (hh : A.handled = none) (F : Fr h₀ L s.heap m) (N : News h₀ L s.heap news) (hbig : h₀.NoLimit) (hm : (d, o) ∈ news) (hd : (d == sysModules) = false) (hdo : o.IsDictOf (strKind prog w) kvs) (hsz : kvs.length ≤ sizeLine)
    (hclos : closureFor scope env = pure cl) (hcell : ∀ y ∈ scope.names, y.2 ≠ .cell) (hkind : scope.kind = .function) (hnames : ∀ y ∈ scope.names, y.2 = .local → scope.names.lookup y.1 = some .local) (hx : scope.names.lookup x = some .local)
    (hit : ∀ {Q : Value → Shared → Prop}, Q (.ref d) s → wpAny (model prog w) A (eval iter env) Q E s) (hs : ∀ x, foldedSetIterable iter env x = pure x)
    (key : ∀ C k t s₃ m₃ E', s₃.heap.Ns C m₃ → m₃ x = some (.str k t) → wpAny (model prog w) A (eval kx (compEnvC scope cl C env)) (fun y s₄ => y = .str k t ∧ Keeps s₃ s₄) E' s₃)
    (val : ∀ C k t v (i : Nat) s₃ m₃ E', kvs[i]? = some (k, v) → s₃.heap.Ns C m₃ → m₃ x = some (.str k t) → (∀ b o, s.heap.get? b = some o → s₃.heap.get? b = some o) → wpAny (model prog w) A (eval vx (compEnvC scope cl C env)) (fun y s₄ => FV k y ∧ Keeps s₃ s₄) E' s₃)
    (ret : ∀ D o' h' tk kvs' (vs : List Value), Fr h₀ L h' m → News h₀ L h' ((D, o') :: news) → NeAll D news → (D == sysModules) = false → o'.IsDictOf (strKind prog w) kvs' →
      vs.length = kvs.length → (∀ (j : Nat) (v : Value), vs[j]? = some v → ∃ k y, kvs[j]? = some (k, y) ∧ keyStr v k) → StoredAll keyStr (fun v y => ∃ k, keyStr v k ∧ FV k y) vs kvs' → Q (.ref D) { s with heap := h', toks := tk }) :
    wpAny (model prog w) A (eval (.DictComp kx vx [⟨.Name x px, iter, [], 0⟩] scope pos) env) Q E s := by
  have hds : s.heap.DictOf (strKind prog w) d kvs := Heap.dictOf_iff.mpr ⟨o, (N _ hm).1, hdo⟩
  obtain ⟨ep, hat⟩ := hds.dictAt
  have hlt : @LT.lt Nat _ d s.heap.objs.size := hat.lt_size
  rw [arm_eval_DictComp]
  refine wpAny_comprehension_free (use := none) rfl hs hclos hkind hnames (hit (wpAny_pyIter_dict hd hat ?_))
  generalize hs₂ : ({ s with heap := s.heap.push { cls := .type "dict_keyiterator", data := .fields #[.ref d, .int 0 0, .int kvs.length 0, .int ep 0] } } : Shared) = s₂
  have up : ∀ b o, s.heap.get? b = some o → s₂.heap.get? b = some o := fun b o e => by rw [← hs₂]; exact Heap.get?_push_of_some _ e
  have hI : s₂.heap.get? s.heap.objs.size = some { cls := .type "dict_keyiterator", data := .fields #[.ref d, .int 0 0, .int kvs.length 0, .int ep 0] } := by rw [← hs₂]; exact Heap.get?_push_size _ rfl
  have hsz₂ : s₂.heap.objs.size = s.heap.objs.size + 1 := by rw [← hs₂]; exact Heap.size_push _ _
  have W := Walks.dictKeys (prog := prog) (w := w) (knd := strKind prog w) hh s.heap.objs.size d (Nat.ne_of_lt hlt) kvs ep
  refine wpAny_newObj_type (wpAny_newFunctionEnv hcell (by intro y hy; simp at hy) (fun h₁ hns₁ hsb₁ => ?_) hkind)
  dsimp only at hns₁ hsb₁ ⊢
  have hnew : (s₂.heap.push { cls := .type "dict", dict := none, data := .dict #[] }).DictOf (strKind prog w) s₂.heap.objs.size [] := Heap.DictOf.new s₂.heap
  generalize hH : s₂.heap.push { cls := .type "dict", dict := none, data := .dict #[] } = H at hns₁ hsb₁ hnew ⊢
  have hHs : H.objs.size = s₂.heap.objs.size + 1 := by rw [← hH]; exact Heap.size_push _ _
  have old : ∀ b o, s₂.heap.get? b = some o → h₁.get? b = some o := fun b o e =>
    hsb₁.extBut b o (neN (by have := ltS e; omega)) (Heap.get?_push_of_some _ (hH ▸ Heap.get?_push_of_some _ e))
  have hacc : h₁.DictOf (strKind prog w) s₂.heap.objs.size [] := hnew.at fun o e => hsb₁.extBut _ _ (neN (by omega)) (Heap.get?_push_of_some _ e)
  have hst : h₁.IsKeyIter s.heap.objs.size d 0 kvs.length ep ∧ h₁.DictAt (strKind prog w) d kvs ep := ⟨⟨_, old _ _ hI, rfl, rfl⟩, hat.at' fun o e => old _ _ (up _ _ e)⟩
  have fin : ∀ s₃ : Shared, s₃ = { s₂ with heap := h₁, toks := s₂.toks + ([] : List (Str × Value)).length } →
      codeAny (model prog w) A (.compLoop (.DictComp kx vx [⟨.Name x px, iter, [], 0⟩] scope pos) 0 (.ref s.heap.objs.size) (.ref s₂.heap.objs.size) (compEnvC scope cl H.objs.size env)) (compPost (model prog w) A E none Q (.ref s₂.heap.objs.size) H.objs.size) s₃ := by
    rintro s₃ rfl
    refine codeAny_compLoop_walkD (hsz := hsz) (knd := strKind prog w) (cenv := compEnvC scope cl H.objs.size env) W (fun _ => true) keyStr (fun v y => ∃ k, keyStr v k ∧ FV k y) (lookup_relabel_local hx) (by simp [compEnvC, relabel, hkind])
      (neN (by omega : s₂.heap.objs.size < H.objs.size ∨ H.objs.size < s₂.heap.objs.size)) (by intro h; rcases List.mem_cons.mp h with e | h; exact neN (by omega) e; exact neN (by omega) (List.mem_singleton.mp h)) (by show H.objs.size ∉ _; intro h; rcases List.mem_cons.mp h with e | h; exact neN (by omega) e; exact neN (by omega) (List.mem_singleton.mp h)) hst hacc hns₁ ?_ ?_ ?_ ?_
    · intro i v s₃ m₃ _ _ _ _
      exact wpAny_pure ⟨rfl, s₃.heap, s₃.toks, rfl, fun _ _ e => e⟩
    · rintro i v s₃ m₃ ⟨k, y, hk, hv⟩ _ hn hm _
      obtain ⟨t, rfl⟩ := Value.isStrOf_shape hv
      exact wpAny_mono (key H.objs.size k t s₃ m₃ _ hn hm) (fun y s₄ h => ⟨⟨k, by rw [h.1]; exact strKind_is _ _ _ _, t, rfl⟩, h.2⟩) fun _ _ x => x
    · rintro i v s₃ m₃ ⟨k, y, hk, hv⟩ _ hn hm he
      obtain ⟨t, rfl⟩ := Value.isStrOf_shape hv
      refine wpAny_mono (val H.objs.size k t y i s₃ m₃ _ hk hn hm fun b o e => he b o ?_ ?_ ?_ (old _ _ (up _ _ e))) (fun y s₄ h => ⟨⟨k, ⟨t, rfl⟩, h.1⟩, h.2⟩) fun _ _ x => x
      · exact neN (.inl (show @LT.lt Nat _ b H.objs.size by have := ltS e; omega))
      · intro h; exact neN (by have := ltS e; omega) (List.mem_singleton.mp h)
      · exact neN (by have := ltS e; omega)
    · intro h' tk m' kvs' vs hn hdk hlen hP hst' hkeep
      refine ⟨m', hn, fun h'' hs'' => ?_⟩
      have keep : ∀ b o, s.heap.get? b = some o → h''.get? b = some o := fun b o e => by
        have := ltS e
        exact hs''.extBut b o (neN (.inl (show @LT.lt Nat _ b H.objs.size by omega))) (hkeep b o (neN (.inl (show @LT.lt Nat _ b H.objs.size by omega))) (fun h => neN (by omega) (List.mem_singleton.mp h)) (neN (by omega)) (old _ _ (up _ _ e)))
      obtain ⟨o', hg, ho'⟩ := Heap.dictOf_iff.mp (hdk.extBut hs''.extBut (neN (by  omega)))
      have hDL : s₂.heap.objs.size ≠ L := by have : @LT.lt Nat _ L _ := F.ns.lt; exact neN (by omega)
      have hD0 : h₀.get? s₂.heap.objs.size = none := by
        cases e : h₀.get? s₂.heap.objs.size with
        | none => rfl
        | some o₁ => have := ltS (F.keep _ _ e); omega
      have F'' : Fr h₀ L h'' m := ⟨F.ns.keeps keep, fun b o e => keep _ _ (F.keep b o e), F.above⟩
      have fin2 : Q (.ref s₂.heap.objs.size) { s with heap := h'', toks := tk } := ?_
      · subst hs₂; exact fin2
      refine ret _ o' h'' tk kvs' vs F'' ?_ (neAll_of fun q hq => ?_) ?_ ho' hlen (fun j v hj => ?_) ?_
      · intro q hq
        rcases List.mem_cons.mp hq with rfl | hq
        · exact ⟨hg, hDL, hD0⟩
        · exact ⟨keep _ _ (N q hq).1, (N q hq).2⟩
      · have := ltS (N q hq).1; exact neN (by omega)
      · have h1 : @LT.lt Nat _ sysModules _ := modules_low hbig
        have h2 : @LE.le Nat _ h₀.objs.size L := F.above
        have h3 : @LT.lt Nat _ L _ := F.ns.lt
        rw [beq_eq_false_iff_ne]; exact neN (by omega)
      · obtain ⟨k, y, hk, hv⟩ := hP j v hj
        obtain ⟨t, e⟩ := Value.isStrOf_shape hv
        exact ⟨k, y, hk, t, e⟩
      · have e : vs.filter (fun _ => true) = vs := List.filter_eq_self.mpr fun _ _ => rfl
        rwa [e] at hst'
  exact codeAny_compStart_dict (fin _ rfl) (W.self 0 _ _ _ hst (fin _ rfl))
end
theorem foldNeg {g : Value → PyData} {f : Value → PyData} {FV : Str → Value → Prop} {l : List Value} {kvs : List (Str × Value)} (h : StoredAll keyStr (fun v y => ∃ k, keyStr v k ∧ FV k y) l kvs)
    (hg : ∀ k t, g (.str k t) = .str k) (hf : ∀ k t y, FV k y → PyProof.V.Flat y (f (.str k t))) :
    PyProof.V.FlatPairs PyData.str kvs (l.foldl (fun acc v => PyProof.V.putD (g v) (f v) acc) []) := by
  induction h with
  | nil => exact .nil
  | snoc _ hk hy ih =>
    rw [List.foldl_append]
    obtain ⟨t, rfl⟩ := hk
    obtain ⟨k', ⟨t', e⟩, hv⟩ := hy
    cases e
    show PyProof.V.FlatPairs _ _ (PyProof.V.putD (g _) (f _) _)
    rw [hg]
    exact PyProof.V.FlatPairs.stored PyProof.V.same_str ih _ (hf _ _ _ hv)
end Mine
end

section
open PySem PySem.W PyProof.Rows PySem.Calls PySem.Spec
set_option maxRecDepth 100000
namespace Mine
abbrev sRed : Str := Str.ofString "red"
abbrev sGreen : Str := Str.ofString "green"
abbrev sBlue : Str := Str.ofString "blue"
abbrev rgbD (r g b : Int) : List (PyData × PyData) := [(PyData.str sRed, PyData.int r), (PyData.str sGreen, PyData.int g), (PyData.str sBlue, PyData.int b)]
theorem neRG : (sRed = sGreen) = False := eq_false (by decide +kernel)
theorem neRB : (sRed = sBlue) = False := eq_false (by decide +kernel)
theorem neGB : (sGreen = sBlue) = False := eq_false (by decide +kernel)
theorem look_red (r g b : Int) : lookup (.str sRed) (rgbD r g b) = some (.int r) := by simp [Spec.lookup, PyProof.V.same_str]
theorem look_green (r g b : Int) : lookup (.str sGreen) (rgbD r g b) = some (.int g) := by simp [Spec.lookup, PyProof.V.same_str, neRG]
theorem look_blue (r g b : Int) : lookup (.str sBlue) (rgbD r g b) = some (.int b) := by simp [Spec.lookup, PyProof.V.same_str, neRB, neGB]
/-- what a dict of the three names looks like -/
theorem rgb_inv {kvs : List (Str × Value)} {r g b : Int} (h : PyProof.V.FlatPairs PyData.str kvs (rgbD r g b)) : ∃ t1 t2 t3, kvs = [(sRed, .int r t1), (sGreen, .int g t2), (sBlue, .int b t3)] := by
  generalize hr : rgbD r g b = D at h
  cases h with
  | nil => simp [rgbD] at hr
  | @cons k1 v1 d1 kvs1 D1 f1 h1 =>
    cases h1 with
    | nil => simp [rgbD] at hr
    | @cons k2 v2 d2 kvs2 D2 f2 h2 =>
      cases h2 with
      | nil => simp [rgbD] at hr
      | @cons k3 v3 d3 kvs3 D3 f3 h3 =>
        cases h3 with
        | cons => simp [rgbD] at hr
        | nil =>
          simp only [rgbD, List.cons.injEq, Prod.mk.injEq, PyData.str.injEq, and_true] at hr
          obtain ⟨⟨rfl, rfl⟩, ⟨rfl, rfl⟩, ⟨rfl, rfl⟩⟩ := hr
          obtain ⟨t1, rfl⟩ := PyProof.V.Flat.int_inv f1
          obtain ⟨t2, rfl⟩ := PyProof.V.Flat.int_inv f2
          obtain ⟨t3, rfl⟩ := PyProof.V.Flat.int_inv f3
          exact ⟨t1, t2, t3, rfl⟩
def negOf (r g b : Int) (v : Value) : PyData := match v with
  | .str k _ => (match lookup (.str k) (rgbD r g b) with | some (.int n) => .int (-n) | _ => .none)
  | _ => .none
def keyOf (v : Value) : PyData := match v with
  | .str k _ => .str k
  | _ => .none
theorem neg_fold (r g b : Int) (t1 t2 t3 : Tok) : [Value.str sRed t1, Value.str sGreen t2, Value.str sBlue t3].foldl (fun acc v => PyProof.V.putD (keyOf v) (negOf r g b v) acc) [] = rgbD (-r) (-g) (-b) := by
  simp [keyOf, negOf, look_red, look_green, look_blue, PyProof.V.putD, PyProof.V.same_str, neRG, neRB, neGB]
section
variable {w : World} {A : Around} {E : Value → Shared → Prop} {s : Shared} {env : Env} {h₀ : Heap} {L : Addr} {m : Str → Option Value} {news : Led}
theorem negComp {x c : Str} {p1 p2 p3 p4 p5 p6 px : Pos} {scope : Scope} {cl : List (Str × Addr)} {pos : Pos} {Q : Value → Shared → Prop} {d ca : Addr} {o oc : Obj} {r g b : Int}
    (hh : A.handled = none) (F : Fr h₀ L s.heap m) (N : News h₀ L s.heap news) (hbig : h₀.NoLimit) (hm : (d, o) ∈ news) (hd : (d == sysModules) = false) (hdo : DictIs w o r g b)
    (hclos : closureFor scope env = pure cl) (hcell : ∀ y ∈ scope.names, y.2 ≠ .cell) (hkind : scope.kind = .function) (hnames : ∀ y ∈ scope.names, y.2 = .local → scope.names.lookup y.1 = some .local) (hx : scope.names.lookup x = some .local)
    (hc : cl.lookup c = some ca) (hcm : (ca, oc) ∈ news) (hcd : oc.data = .cell (some (.ref d))) (hkc : ∀ C, (compEnvC scope cl C env).kindOf c = some .cell)
    (he : env.scope.kind = .function) (hec : env.kindOf c = some .cell) (hel : env.cells.lookup c = some ca) (hxd : (x == ("__debug__" : Str)) = false) (hcdb : (c == ("__debug__" : Str)) = false)
    (ret : ∀ D o' h' tk, Fr h₀ L h' m → News h₀ L h' ((D, o') :: news) → NeAll D news → (D == sysModules) = false → DictIs w o' (-r) (-g) (-b) → Q (.ref D) { s with heap := h', toks := tk }) :
    wpAny (model Challenge.rw_xg0063_01.row.prog w) A (eval (.DictComp (.Name x p1) (.UnaryOp .USub (.Subscript (.Name c p2) (.Name x p3) p4) p5) [⟨.Name x px, .Name c p6, [], 0⟩] scope pos) env) Q E s := by
  obtain ⟨kvs, h1, h2⟩ := hdo
  have h2' : PyProof.V.FlatPairs PyData.str kvs (rgbD r g b) := h2
  obtain ⟨t1, t2, t3, rfl⟩ := rgb_inv h2'
  refine compKeys (kvs := [(sRed, .int r t1), (sGreen, .int g t2), (sBlue, .int b t3)]) (fun k y => ∃ n t, lookup (.str k) (rgbD r g b) = some (.int n) ∧ y = .int (-n) t) hh F N hbig hm hd h1 (show 3 ≤ sizeLine by decide) hclos hcell hkind hnames hx
    (fun hq => wpAny_Name (wpAny_loadName_cell he hec hel ⟨oc, N.get hcm, hcd⟩ hq) hcdb) (by intro _; rfl) ?_ ?_ ?_
  · intro C k t s₃ m₃ E' hn hm
    exact wpAny_Name (wpAny_loadName_local hkind (lookup_relabel_local hx) hn hm ⟨rfl, s₃.heap, s₃.toks, rfl, fun _ _ e => e⟩) hxd
  · intro C k t v i s₃ m₃ E' hk hn hm₃ keep
    have hl : ∃ n, lookup (.str k) (rgbD r g b) = some (.int n) := by
      match i, hk with
      | 0, hk => obtain ⟨rfl, _⟩ := Prod.mk.inj (Option.some.inj hk); exact ⟨r, look_red ..⟩
      | 1, hk => obtain ⟨rfl, _⟩ := Prod.mk.inj (Option.some.inj hk); exact ⟨g, look_green ..⟩
      | 2, hk => obtain ⟨rfl, _⟩ := Prod.mk.inj (Option.some.inj hk); exact ⟨b, look_blue ..⟩
      | (_ + 3), hk => cases hk
    obtain ⟨n, hl⟩ := hl
    have T : StrTab Challenge.rw_xg0063_01.row.prog w s₃.heap d (rgbD r g b) := ⟨hd, _, Heap.dictOf_iff.mpr ⟨o, keep _ _ (N _ hm).1, h1⟩, h2'⟩
    refine UnaryOp_ (Subscript_ (wpAny_Name (wpAny_loadName_cell hkind (hkc C) hc ⟨oc, keep _ _ (N.get hcm), hcd⟩ ?_) hcdb))
    refine wpAny_Name (wpAny_loadName_local hkind (lookup_relabel_local hx) hn hm₃ ?_) hxd
    refine item_strTab T hl fun v hv => ?_
    obtain ⟨t', rfl⟩ := PyProof.V.Flat.int_inv hv
    exact P.neg_int ⟨⟨n, _, hl, rfl⟩, s₃.heap, _, rfl, fun _ _ e => e⟩
  · intro D o' h' tk kvs' vs F' N' hne hds hdo' hlen hP hst
    refine ret D o' h' tk F' N' hne hds ⟨kvs', hdo', ?_⟩
    have hf := foldNeg (g := keyOf) (f := negOf r g b) hst (fun _ _ => rfl) (fun k t y hy => by
      obtain ⟨n, t', hl, rfl⟩ := hy
      show PyProof.V.Flat _ (match lookup (.str k) (rgbD r g b) with | some (.int n) => .int (-n) | _ => .none)
      rw [hl]
      exact PyProof.V.Flat.int _ _)
    match vs, hlen, hP, hf with
    | [v1, v2, v3], _, hP, hf =>
      obtain ⟨k1, y1, e1, u1, rfl⟩ := hP 0 v1 rfl
      obtain ⟨k2, y2, e2, u2, rfl⟩ := hP 1 v2 rfl
      obtain ⟨k3, y3, e3, u3, rfl⟩ := hP 2 v3 rfl
      obtain ⟨rfl, _⟩ := Prod.mk.inj (Option.some.inj e1)
      obtain ⟨rfl, _⟩ := Prod.mk.inj (Option.some.inj e2)
      obtain ⟨rfl, _⟩ := Prod.mk.inj (Option.some.inj e3)
      rwa [neg_fold] at hf
end
end Mine
end

section
open PySem PySem.W PyProof.Rows
set_option Elab.async false
set_option maxRecDepth 100000
set_option maxHeartbeats 8000000
namespace Mine
section
theorem callers_does (w : World) (mean : ExcName → Option Value) (mg mb : Str → Option Value) (x y : Addr) (ox oy : Obj) (d1 d2 d3 e1 e2 e3 : Int)
    (hxs : (x == sysModules) = false) (hys : (y == sysModules) = false) (hx : DictIs w ox d1 d2 d3) (hy : DictIs w oy e1 e2 e3) :
    Does w mean mg mb 126 [.ref x, .ref y] [(x, ox), (y, oy)] 1
      (fun tl r => ∃ d o, r = .ref d ∧ (d, o) ∈ tl ∧ (d == sysModules) = false ∧ DictIs w o (d1 + e1) (d2 + e2) (d3 + e3)) := by
  unfold Does
  k_fill
  intro dp un gd cn cs a ccd cl outer A₀ base h₀ L m news s Q E B F X N T hk hex hd hu hret
  have hfull := N
  have hN : News h₀ L s.heap _ := fun p hp => N p (hex p hp)
  clear N
  obtain ⟨kx, hx1, hx2⟩ := hx
  obtain ⟨ky, hy1, hy2⟩ := hy
  refine wpAny_call ?_
  k_dflt (refine' enterP (binds := [(Str.ofString "target", .ref x), (Str.ofString "source", .ref y)]) ?k1 ?k2 ?k3 hN ?k5 ?kA ?kF ?kK ?k6 ?k7 ?k8 ?k9 ?kB ?_ ?c2 ?c3 ?c4 ?c5; (case kA => exact rfl); (case kF => exact rfl); (case kK => assumption); (case k1 => k_asm); (case k2 => k_asm); (case k3 => k_asm); (case k5 => k_asm); (case k6 => k_is); (case k7 => k_is); (case k8 => ktr_room); (case k9 => first | exact BindsTo.of_eq rfl | exact binds_K (by k_in) rfl (by k_is) rfl rfl rfl); (case c5 => decide); (case kB => exact locs rfl); (case c2 => exact rfl); (case c3 => exact rfl); (case c4 => exact rfl); k_whole; intro g' L' h' tk' hg' FG' F' N' B' X' T' l1; (try dsimp only); (try k_fold))
  (try k_lt l1)
  repeat' (first | (k_unfold; (try dsimp only)) | (k_end; wrow_close) | ((with_reducible (k_here; (with_reducible show @ite Prop (Option.isSome _ = true) _ _ _); (with_unfolding_all refine PySem.W.ite_pos (by rfl) ?_))); (first | (with_reducible show wpAny _ _ (subscriptTail _ _ _ (Value.ref _)) _ _ _) | (with_reducible show wpAny _ _ (setItem _ (Value.ref _) _) _ _ _) | dsimp only | skip)) | (walk1; (first | (with_reducible show wpAny _ _ (subscriptTail _ _ _ (Value.ref _)) _ _ _) | (with_reducible show wpAny _ _ (setItem _ (Value.ref _) _) _ _ _) | dsimp only | skip)) | (dsimp only; walk1) | (leave1; (try dsimp only)) | fail "no step")
  (refine' hret _ [(_, _)] _ _ ?e0 (newsBack hfull hg' (by assumption) (by assumption) ?e1 hex ?e2) (apartBack hfull hg' (by assumption) ?e3 ?e4) ⟨_, _, rfl, List.Mem.head _, by assumption, ⟨_, by assumption, by assumption⟩⟩; (case e0 => k_asm); (case e1 => (repeat' (first | exact List.forall_mem_nil _ | refine List.forall_mem_cons.mpr ⟨by k_mem, ?_⟩))); (case e2 => (repeat' (first | exact List.forall_mem_nil _ | refine List.forall_mem_cons.mpr ⟨by k_mem, ?_⟩))); (case e3 => (repeat' (first | exact List.forall_mem_nil _ | refine List.forall_mem_cons.mpr ⟨by k_mem, ?_⟩))); (case e4 => (repeat' (first | exact List.forall_mem_nil _ | refine List.forall_mem_cons.mpr ⟨by first | exact neSub (by assumption) (by repeat' (first | exact List.forall_mem_nil _ | refine List.forall_mem_cons.mpr ⟨by k_mem, ?_⟩)) | k_all, ?_⟩))))
end
end Mine
end

section
open PySem PySem.W PyProof.Rows
set_option Elab.async false
set_option maxRecDepth 100000
set_option maxHeartbeats 8000000
namespace Mine
section
theorem stats_does (w : World) (mean : ExcName → Option Value) (mg mb : Str → Option Value) (x dx y dy : Addr) (ox oy : Obj) (n n' : Nat) (a1 a2 a3 a4 d1 d2 d3 b1 b2 b3 b4 e1 e2 e3 : Int) (p1 p2 p3 p4 q1 q2 q3 q4 : Tok)
    (hxs : (dx == sysModules) = false) (hys : (dy == sysModules) = false) (hx : DictIs w ox d1 d2 d3) (hy : DictIs w oy e1 e2 e3) :
    Does w mean mg mb 119 [.ref x, .ref y] [(x, tupOf [.int a1 p1, .int a2 p2, .int a3 p3, .int a4 p4, .ref dx] n), (dx, ox), (y, tupOf [.int b1 q1, .int b2 q2, .int b3 q3, .int b4 q4, .ref dy] n'), (dy, oy)] 2
      (fun tl r => EntryIs w tl r (b1 + a1) (b2 + a2) (b3 + a3) (b4 + a4) (d1 + e1) (d2 + e2) (d3 + e3)) := by
  unfold Does
  k_fill
  intro dp un gd cn cs a ccd cl outer A₀ base h₀ L m news s Q E B F X N T hk hex hd hu hret
  have hfull := N
  have hN : News h₀ L s.heap _ := fun p hp => N p (hex p hp)
  clear N
  refine wpAny_call ?_
  k_dflt (refine' enterP (binds := [(Str.ofString "target", .ref x), (Str.ofString "source", .ref y)]) ?k1 ?k2 ?k3 hN ?k5 ?kA ?kF ?kK ?k6 ?k7 ?k8 ?k9 ?kB ?_ ?c2 ?c3 ?c4 ?c5; (case kA => exact rfl); (case kF => exact rfl); (case kK => assumption); (case k1 => k_asm); (case k2 => k_asm); (case k3 => k_asm); (case k5 => k_asm); (case k6 => k_is); (case k7 => k_is); (case k8 => ktr_room); (case k9 => first | exact BindsTo.of_eq rfl | exact binds_K (by k_in) rfl (by k_is) rfl rfl rfl); (case c5 => decide); (case kB => exact locs rfl); (case c2 => exact rfl); (case c3 => exact rfl); (case c4 => exact rfl); k_whole; intro g' L' h' tk' hg' FG' F' N' B' X' T' l1; (try dsimp only); (try k_fold))
  (try k_lt l1)
  repeat' (first | (k_unfold; (try dsimp only)) | (k_end; wrow_close) | ((with_reducible show wpAny _ _ (call (Value.ref _) _) _ _ _); (with_reducible (k_here; (with_reducible show wpAny _ _ (call (Value.ref 126) _) _ _ _); with_unfolding_all ( refine' Does.use (callers_does _ _ _ _ _ _ _ _ _ _ _ _ _ _ ?zqa1 ?zqa2 ?zqa3 ?zqa4) ?zqk1 ?zqk2 ?zqk3 ?zqk4 ?zqk5 ?zqk6 ?zqk7 ?zqk8 ?zqk9 ?_; (case zqk1 => k_asm); (case zqk2 => k_asm); (case zqk3 => k_asm); (case zqk4 => k_asm); (case zqk5 => k_asm); (case zqk6 => first | exact rfl | assumption); (case zqk7 => (repeat' (first | exact List.forall_mem_nil _ | refine List.forall_mem_cons.mpr ⟨by k_mem, ?_⟩))); (case zqa1 => assumption); (case zqa2 => assumption); (case zqa3 => first | assumption | exact ⟨_, by assumption, by assumption⟩); (case zqa4 => first | assumption | exact ⟨_, by assumption, by assumption⟩); (case zqk8 => ktr_room); (case zqk9 => ktr_units); intro r9 tl9 h9 tk9 F9 N9 hl9 ho9; obtain ⟨d9, o9, e9, hm9, hs9, hd9⟩ := ho9; subst e9; (have l9 := apartOf hl9 hm9); (replace N9 := newsPick (less := (d9, o9) :: _) N9 (List.forall_mem_cons.mpr ⟨List.mem_append_left _ hm9, fun _ h => List.mem_append_right _ h⟩)); clear hl9 hm9; (try k_sweep); (try dsimp only); (try k_fold)))); (first | (with_reducible show wpAny _ _ (subscriptTail _ _ _ (Value.ref _)) _ _ _) | (with_reducible show wpAny _ _ (setItem _ (Value.ref _) _) _ _ _) | dsimp only | skip)) | (walk1; (first | (with_reducible show wpAny _ _ (subscriptTail _ _ _ (Value.ref _)) _ _ _) | (with_reducible show wpAny _ _ (setItem _ (Value.ref _) _) _ _ _) | dsimp only | skip)) | (dsimp only; walk1) | (leave1; (try dsimp only)) | fail "no step")
  (refine' hret _ [(_, _), (_, _)] _ _ ?e0 (newsBack hfull hg' (by assumption) (by assumption) ?e1 hex ?e2) (apartBack hfull hg' (by assumption) ?e3 ?e4) ⟨_, _, _, _, _, _, _, _, rfl, List.Mem.head _, List.Mem.tail _ (List.Mem.head _), by assumption, by assumption⟩; (case e0 => k_asm); (case e1 => (repeat' (first | exact List.forall_mem_nil _ | refine List.forall_mem_cons.mpr ⟨by k_mem, ?_⟩))); (case e2 => (repeat' (first | exact List.forall_mem_nil _ | refine List.forall_mem_cons.mpr ⟨by k_mem, ?_⟩))); (case e3 => (repeat' (first | exact List.forall_mem_nil _ | refine List.forall_mem_cons.mpr ⟨by k_mem, ?_⟩))); (case e4 => (repeat' (first | exact List.forall_mem_nil _ | refine List.forall_mem_cons.mpr ⟨by first | exact neSub (by assumption) (by repeat' (first | exact List.forall_mem_nil _ | refine List.forall_mem_cons.mpr ⟨by k_mem, ?_⟩)) | k_all, ?_⟩))))
end
end Mine
end

section
open PySem PySem.W PyProof.Rows
set_option Elab.async false
set_option maxRecDepth 100000
set_option maxHeartbeats 8000000
namespace Mine
section
theorem owed_does (w : World) (mean : ExcName → Option Value) (mg mb : Str → Option Value) (x dx : Addr) (ox : Obj) (n : Nat) (a1 a2 a3 a4 d1 d2 d3 : Int) (p1 p2 p3 p4 : Tok)
    (hxs : (dx == sysModules) = false) (hx : DictIs w ox d1 d2 d3) :
    Does w mean mg mb 190 [.ref x] [(x, tupOf [.int a1 p1, .int a2 p2, .int a3 p3, .int a4 p4, .ref dx] n), (dx, ox)] 2
      (fun tl r => EntryIs w tl r (-a1) (-a2) (-a3) (-a4) (-d1) (-d2) (-d3)) := by
  unfold Does
  k_fill
  intro dp un gd cn cs a ccd cl outer A₀ base h₀ L m news s Q E B F X N T hk hex hd hu hret
  have hfull := N
  have hN : News h₀ L s.heap _ := fun p hp => N p (hex p hp)
  clear N
  refine wpAny_call ?_
  k_dflt (refine' enterC (binds := [(Str.ofString "entry", .ref x)]) ?k1 ?k2 ?k3 hN ?k5 ?kA ?kF ?kK ?k6 ?k7 ?k8 ?k9 ?kB ?kD ?_ ?c2 ?c3 ?c4; (case kA => exact rfl); (case kF => exact rfl); (case kK => assumption); (case k1 => k_asm); (case k2 => k_asm); (case k3 => k_asm); (case k5 => k_asm); (case k6 => k_is); (case k7 => k_is); (case k8 => ktr_room); (case k9 => first | exact BindsTo.of_eq rfl | exact binds_K (by k_in) rfl (by k_is) rfl rfl rfl); (case kB => exact rfl); (case kD => decide +kernel); (case c2 => exact rfl); (case c3 => exact rfl); (case c4 => exact rfl); k_whole; intro g' L' h' tk' cells' hg' FG' F' N' Y' B' X' T' l1; (try k_lt l1); k_cells Y'; (try simp only [List.cons_append, List.nil_append] at N'); (try dsimp only); (try k_fold))
  repeat' (first | (k_unfold; (try dsimp only)) | (k_end; wrow_close) | ((with_reducible show wpAny _ _ (eval (PySem.Expr.DictComp _ _ _ _ _) _) _ _ _); (with_reducible (k_here; with_unfolding_all ( refine' negComp (x := Str.ofString "name") (c := Str.ofString "callers") ?zqh1 ?zqh2 ?zqh3 ?zqh4 ?zqh5 ?zqh6 ?zqh7 ?zqh8 ?zqh9 ?zqh10 ?zqh11 ?zqh12 ?zqh13 ?zqh14 ?zqh15 ?zqh16 ?zqh17 ?zqh18 ?zqh19 ?zqh20 ?zqh21 ?_; (case zqh1 => rfl); (case zqh2 => k_asm); (case zqh3 => k_asm); (case zqh4 => exact Top.nolimit (by k_asm)); (case zqh8 => rfl); (case zqh9 => decide); (case zqh10 => rfl); (case zqh11 => decide); (case zqh12 => rfl); (case zqh13 => rfl); (case zqh14 => k_mem); (case zqh15 => k_asm); (case zqh16 => intro _; rfl); (case zqh17 => rfl); (case zqh18 => rfl); (case zqh19 => rfl); (case zqh20 => decide); (case zqh21 => decide); (case zqh5 => k_mem); (case zqh6 => assumption); (case zqh7 => assumption); intro D9 o9 h9 tk9 F9 N9 l9 hs9 hd9; (try k_sweep); (try dsimp only); (try k_fold)))); (first | (with_reducible show wpAny _ _ (subscriptTail _ _ _ (Value.ref _)) _ _ _) | (with_reducible show wpAny _ _ (setItem _ (Value.ref _) _) _ _ _) | dsimp only | skip)) | (walk1; (first | (with_reducible show wpAny _ _ (subscriptTail _ _ _ (Value.ref _)) _ _ _) | (with_reducible show wpAny _ _ (setItem _ (Value.ref _) _) _ _ _) | dsimp only | skip)) | (dsimp only; walk1) | (leave1; (try dsimp only)) | fail "no step")
  (refine' hret _ [(_, _), (_, _)] _ _ ?e0 (newsBack hfull hg' (by assumption) (by assumption) ?e1 hex ?e2) (apartBack hfull hg' (by assumption) ?e3 ?e4) ⟨_, _, _, _, _, _, _, _, rfl, List.Mem.head _, List.Mem.tail _ (List.Mem.head _), by assumption, by assumption⟩; (case e0 => k_asm); (case e1 => (repeat' (first | exact List.forall_mem_nil _ | refine List.forall_mem_cons.mpr ⟨by k_mem, ?_⟩))); (case e2 => (repeat' (first | exact List.forall_mem_nil _ | refine List.forall_mem_cons.mpr ⟨by k_mem, ?_⟩))); (case e3 => (repeat' (first | exact List.forall_mem_nil _ | refine List.forall_mem_cons.mpr ⟨by k_mem, ?_⟩))); (case e4 => (repeat' (first | exact List.forall_mem_nil _ | refine List.forall_mem_cons.mpr ⟨by first | exact neSub (by assumption) (by repeat' (first | exact List.forall_mem_nil _ | refine List.forall_mem_cons.mpr ⟨by k_mem, ?_⟩)) | k_all, ?_⟩))))
end
end Mine
end

section
open PySem PySem.W PyProof.Rows
set_option Elab.async false
set_option maxRecDepth 100000
set_option maxHeartbeats 8000000
namespace Mine
section
theorem turned0_does (w : World) (mean : ExcName → Option Value) (mg mb : Str → Option Value) (l x y z dx dy dz : Addr) (ox oy oz : Obj) (n nx ny nz : Nat) (a1 a2 a3 a4 a5 a6 a7 b1 b2 b3 b4 b5 b6 b7 c1 c2 c3 c4 c5 c6 c7 : Int) (p1 p2 p3 p4 q1 q2 q3 q4 r1 r2 r3 r4 k0 : Tok)
    (hxs : (dx == sysModules) = false) (hys : (dy == sysModules) = false) (hzs : (dz == sysModules) = false) (hx : DictIs w ox a5 a6 a7) (hy : DictIs w oy b5 b6 b7) (hz : DictIs w oz c5 c6 c7) :
    Does w mean mg mb 197 [.ref l, .int 0 k0] [(l, listOf [.ref x, .ref y, .ref z].toArray n), (x, tupOf [.int a1 p1, .int a2 p2, .int a3 p3, .int a4 p4, .ref dx] nx), (dx, ox), (y, tupOf [.int b1 q1, .int b2 q2, .int b3 q3, .int b4 q4, .ref dy] ny), (dy, oy), (z, tupOf [.int c1 r1, .int c2 r2, .int c3 r3, .int c4 r4, .ref dz] nz), (dz, oz)] 4
      (fun tl r => ∃ l' n' f, r = .ref l' ∧ (l', listOf [f, .ref y, .ref z].toArray n') ∈ tl ∧ EntryIs w tl f (-a1 + (b1 + c1 + (b1 + c1))) (-a2 + (b2 + c2 + (b2 + c2))) (-a3 + (b3 + c3 + (b3 + c3))) (-a4 + (b4 + c4 + (b4 + c4))) (c5 + b5 + (c5 + b5) + -a5) (c6 + b6 + (c6 + b6) + -a6) (c7 + b7 + (c7 + b7) + -a7)) := by
  unfold Does
  k_fill
  intro dp un gd cn cs a ccd cl outer A₀ base h₀ L m news s Q E B F X N T hk hex hd hu hret
  have hfull := N
  have hN : News h₀ L s.heap _ := fun p hp => N p (hex p hp)
  clear N
  refine wpAny_call ?_
  k_dflt (refine' enterP (binds := [(Str.ofString "entries", .ref l), (Str.ofString "c", .int 0 k0)]) ?k1 ?k2 ?k3 hN ?k5 ?kA ?kF ?kK ?k6 ?k7 ?k8 ?k9 ?kB ?_ ?c2 ?c3 ?c4 ?c5; (case kA => exact rfl); (case kF => exact rfl); (case kK => assumption); (case k1 => k_asm); (case k2 => k_asm); (case k3 => k_asm); (case k5 => k_asm); (case k6 => k_is); (case k7 => k_is); (case k8 => ktr_room); (case k9 => first | exact BindsTo.of_eq rfl | exact binds_K (by k_in) rfl (by k_is) rfl rfl rfl); (case c5 => decide); (case kB => exact locs rfl); (case c2 => exact rfl); (case c3 => exact rfl); (case c4 => exact rfl); k_whole; intro g' L' h' tk' hg' FG' F' N' B' X' T' l1; (try dsimp only); (try k_fold))
  (try k_lt l1)
  repeat' (first | (k_unfold; (try dsimp only)) | (k_end; wrow_close) | ((with_reducible show wpAny _ _ (call (Value.ref _) _) _ _ _); (with_reducible (k_here; (with_reducible show wpAny _ _ (call (Value.ref 190) _) _ _ _); with_unfolding_all ( refine' Does.use (owed_does _ _ _ _ _ _ _ _ _ _ _ _ _ _ _ _ _ _ _ ?zqh1 ?zqh2) ?zqk1 ?zqk2 ?zqk3 ?zqk4 ?zqk5 ?zqk6 ?zqk7 ?zqk8 ?zqk9 ?_; (case zqk1 => k_asm); (case zqk2 => k_asm); (case zqk3 => k_asm); (case zqk4 => k_asm); (case zqk5 => k_asm); (case zqk6 => first | exact rfl | assumption); (case zqk7 => (repeat' (first | exact List.forall_mem_nil _ | refine List.forall_mem_cons.mpr ⟨by k_mem, ?_⟩))); (case zqh1 => assumption); (case zqh2 => assumption); (case zqk8 => ktr_room); (case zqk9 => ktr_units); intro r9 tl9 h9 tk9 F9 N9 hl9 ho9; obtain ⟨t9, d9, o9, n9, u1, u2, u3, u4, e9, hm9, hn9, hs9, hd9⟩ := ho9; subst e9; (have l9 := apartOf hl9 hm9); (have m9 := apartOf hl9 hn9); (replace N9 := newsPick (less := (t9, _) :: (d9, o9) :: _) N9 (List.forall_mem_cons.mpr ⟨List.mem_append_left _ hm9, List.forall_mem_cons.mpr ⟨List.mem_append_left _ hn9, fun _ h => List.mem_append_right _ h⟩⟩)); clear hl9 hm9 hn9; (try k_sweep); (try dsimp only); (try k_fold)))); (first | (with_reducible show wpAny _ _ (subscriptTail _ _ _ (Value.ref _)) _ _ _) | (with_reducible show wpAny _ _ (setItem _ (Value.ref _) _) _ _ _) | dsimp only | skip)) | ((with_reducible show wpAny _ _ (call (Value.ref _) _) _ _ _); (with_reducible (k_here; (with_reducible show wpAny _ _ (call (Value.ref 119) _) _ _ _); with_unfolding_all ( refine' Does.use (stats_does _ _ _ _ _ _ _ _ _ _ _ _ _ _ _ _ _ _ _ _ _ _ _ _ _ _ _ _ _ _ _ _ _ _ ?zqh1 ?zqh2 ?zqh3 ?zqh4) ?zqk1 ?zqk2 ?zqk3 ?zqk4 ?zqk5 ?zqk6 ?zqk7 ?zqk8 ?zqk9 ?_; (case zqk1 => k_asm); (case zqk2 => k_asm); (case zqk3 => k_asm); (case zqk4 => k_asm); (case zqk5 => k_asm); (case zqk6 => first | exact rfl | assumption); (case zqk7 => (repeat' (first | exact List.forall_mem_nil _ | refine List.forall_mem_cons.mpr ⟨by k_mem, ?_⟩))); (case zqh1 => assumption); (case zqh2 => assumption); (case zqh3 => assumption); (case zqh4 => assumption); (case zqk8 => ktr_room); (case zqk9 => ktr_units); intro r9 tl9 h9 tk9 F9 N9 hl9 ho9; obtain ⟨t9, d9, o9, n9, u1, u2, u3, u4, e9, hm9, hn9, hs9, hd9⟩ := ho9; subst e9; (have l9 := apartOf hl9 hm9); (have m9 := apartOf hl9 hn9); (replace N9 := newsPick (less := (t9, _) :: (d9, o9) :: _) N9 (List.forall_mem_cons.mpr ⟨List.mem_append_left _ hm9, List.forall_mem_cons.mpr ⟨List.mem_append_left _ hn9, fun _ h => List.mem_append_right _ h⟩⟩)); clear hl9 hm9 hn9; (try k_sweep); (try dsimp only); (try k_fold)))); (first | (with_reducible show wpAny _ _ (subscriptTail _ _ _ (Value.ref _)) _ _ _) | (with_reducible show wpAny _ _ (setItem _ (Value.ref _) _) _ _ _) | dsimp only | skip)) | (walk1; (first | (with_reducible show wpAny _ _ (subscriptTail _ _ _ (Value.ref _)) _ _ _) | (with_reducible show wpAny _ _ (setItem _ (Value.ref _) _) _ _ _) | dsimp only | skip)) | (dsimp only; walk1) | (leave1; (try dsimp only)) | fail "no step")
  (refine' hret _ [(_, _), (_, _), (_, _)] _ _ ?e0 (newsBack hfull hg' (by assumption) (by assumption) ?e1 hex ?e2) (apartBack hfull hg' (by assumption) ?e3 ?e4) ⟨_, _, _, rfl, List.Mem.head _, ⟨_, _, _, _, _, _, _, _, rfl, List.Mem.tail _ (List.Mem.head _), List.Mem.tail _ (List.Mem.tail _ (List.Mem.head _)), by assumption, by assumption⟩⟩; (case e0 => k_asm); (case e1 => (repeat' (first | exact List.forall_mem_nil _ | refine List.forall_mem_cons.mpr ⟨by k_mem, ?_⟩))); (case e2 => (repeat' (first | exact List.forall_mem_nil _ | refine List.forall_mem_cons.mpr ⟨by k_mem, ?_⟩))); (case e3 => (repeat' (first | exact List.forall_mem_nil _ | refine List.forall_mem_cons.mpr ⟨by k_mem, ?_⟩))); (case e4 => (repeat' (first | exact List.forall_mem_nil _ | refine List.forall_mem_cons.mpr ⟨by first | exact neSub (by assumption) (by repeat' (first | exact List.forall_mem_nil _ | refine List.forall_mem_cons.mpr ⟨by k_mem, ?_⟩)) | k_all, ?_⟩))))
theorem turned1_does (w : World) (mean : ExcName → Option Value) (mg mb : Str → Option Value) (l x y z dx dy dz : Addr) (ox oy oz : Obj) (n nx ny nz : Nat) (a1 a2 a3 a4 a5 a6 a7 b1 b2 b3 b4 b5 b6 b7 c1 c2 c3 c4 c5 c6 c7 : Int) (p1 p2 p3 p4 q1 q2 q3 q4 r1 r2 r3 r4 k0 : Tok)
    (hxs : (dx == sysModules) = false) (hys : (dy == sysModules) = false) (hzs : (dz == sysModules) = false) (hx : DictIs w ox a5 a6 a7) (hy : DictIs w oy b5 b6 b7) (hz : DictIs w oz c5 c6 c7) :
    Does w mean mg mb 197 [.ref l, .int 1 k0] [(l, listOf [.ref x, .ref y, .ref z].toArray n), (x, tupOf [.int a1 p1, .int a2 p2, .int a3 p3, .int a4 p4, .ref dx] nx), (dx, ox), (y, tupOf [.int b1 q1, .int b2 q2, .int b3 q3, .int b4 q4, .ref dy] ny), (dy, oy), (z, tupOf [.int c1 r1, .int c2 r2, .int c3 r3, .int c4 r4, .ref dz] nz), (dz, oz)] 4
      (fun tl r => ∃ l' n' f, r = .ref l' ∧ (l', listOf [.ref x, f, .ref z].toArray n') ∈ tl ∧ EntryIs w tl f (-b1 + (c1 + a1 + (c1 + a1))) (-b2 + (c2 + a2 + (c2 + a2))) (-b3 + (c3 + a3 + (c3 + a3))) (-b4 + (c4 + a4 + (c4 + a4))) (a5 + c5 + (a5 + c5) + -b5) (a6 + c6 + (a6 + c6) + -b6) (a7 + c7 + (a7 + c7) + -b7)) := by
  unfold Does
  k_fill
  intro dp un gd cn cs a ccd cl outer A₀ base h₀ L m news s Q E B F X N T hk hex hd hu hret
  have hfull := N
  have hN : News h₀ L s.heap _ := fun p hp => N p (hex p hp)
  clear N
  refine wpAny_call ?_
  k_dflt (refine' enterP (binds := [(Str.ofString "entries", .ref l), (Str.ofString "c", .int 1 k0)]) ?k1 ?k2 ?k3 hN ?k5 ?kA ?kF ?kK ?k6 ?k7 ?k8 ?k9 ?kB ?_ ?c2 ?c3 ?c4 ?c5; (case kA => exact rfl); (case kF => exact rfl); (case kK => assumption); (case k1 => k_asm); (case k2 => k_asm); (case k3 => k_asm); (case k5 => k_asm); (case k6 => k_is); (case k7 => k_is); (case k8 => ktr_room); (case k9 => first | exact BindsTo.of_eq rfl | exact binds_K (by k_in) rfl (by k_is) rfl rfl rfl); (case c5 => decide); (case kB => exact locs rfl); (case c2 => exact rfl); (case c3 => exact rfl); (case c4 => exact rfl); k_whole; intro g' L' h' tk' hg' FG' F' N' B' X' T' l1; (try dsimp only); (try k_fold))
  (try k_lt l1)
  repeat' (first | (k_unfold; (try dsimp only)) | (k_end; wrow_close) | ((with_reducible show wpAny _ _ (call (Value.ref _) _) _ _ _); (with_reducible (k_here; (with_reducible show wpAny _ _ (call (Value.ref 190) _) _ _ _); with_unfolding_all ( refine' Does.use (owed_does _ _ _ _ _ _ _ _ _ _ _ _ _ _ _ _ _ _ _ ?zqh1 ?zqh2) ?zqk1 ?zqk2 ?zqk3 ?zqk4 ?zqk5 ?zqk6 ?zqk7 ?zqk8 ?zqk9 ?_; (case zqk1 => k_asm); (case zqk2 => k_asm); (case zqk3 => k_asm); (case zqk4 => k_asm); (case zqk5 => k_asm); (case zqk6 => first | exact rfl | assumption); (case zqk7 => (repeat' (first | exact List.forall_mem_nil _ | refine List.forall_mem_cons.mpr ⟨by k_mem, ?_⟩))); (case zqh1 => assumption); (case zqh2 => assumption); (case zqk8 => ktr_room); (case zqk9 => ktr_units); intro r9 tl9 h9 tk9 F9 N9 hl9 ho9; obtain ⟨t9, d9, o9, n9, u1, u2, u3, u4, e9, hm9, hn9, hs9, hd9⟩ := ho9; subst e9; (have l9 := apartOf hl9 hm9); (have m9 := apartOf hl9 hn9); (replace N9 := newsPick (less := (t9, _) :: (d9, o9) :: _) N9 (List.forall_mem_cons.mpr ⟨List.mem_append_left _ hm9, List.forall_mem_cons.mpr ⟨List.mem_append_left _ hn9, fun _ h => List.mem_append_right _ h⟩⟩)); clear hl9 hm9 hn9; (try k_sweep); (try dsimp only); (try k_fold)))); (first | (with_reducible show wpAny _ _ (subscriptTail _ _ _ (Value.ref _)) _ _ _) | (with_reducible show wpAny _ _ (setItem _ (Value.ref _) _) _ _ _) | dsimp only | skip)) | ((with_reducible show wpAny _ _ (call (Value.ref _) _) _ _ _); (with_reducible (k_here; (with_reducible show wpAny _ _ (call (Value.ref 119) _) _ _ _); with_unfolding_all ( refine' Does.use (stats_does _ _ _ _ _ _ _ _ _ _ _ _ _ _ _ _ _ _ _ _ _ _ _ _ _ _ _ _ _ _ _ _ _ _ ?zqh1 ?zqh2 ?zqh3 ?zqh4) ?zqk1 ?zqk2 ?zqk3 ?zqk4 ?zqk5 ?zqk6 ?zqk7 ?zqk8 ?zqk9 ?_; (case zqk1 => k_asm); (case zqk2 => k_asm); (case zqk3 => k_asm); (case zqk4 => k_asm); (case zqk5 => k_asm); (case zqk6 => first | exact rfl | assumption); (case zqk7 => (repeat' (first | exact List.forall_mem_nil _ | refine List.forall_mem_cons.mpr ⟨by k_mem, ?_⟩))); (case zqh1 => assumption); (case zqh2 => assumption); (case zqh3 => assumption); (case zqh4 => assumption); (case zqk8 => ktr_room); (case zqk9 => ktr_units); intro r9 tl9 h9 tk9 F9 N9 hl9 ho9; obtain ⟨t9, d9, o9, n9, u1, u2, u3, u4, e9, hm9, hn9, hs9, hd9⟩ := ho9; subst e9; (have l9 := apartOf hl9 hm9); (have m9 := apartOf hl9 hn9); (replace N9 := newsPick (less := (t9, _) :: (d9, o9) :: _) N9 (List.forall_mem_cons.mpr ⟨List.mem_append_left _ hm9, List.forall_mem_cons.mpr ⟨List.mem_append_left _ hn9, fun _ h => List.mem_append_right _ h⟩⟩)); clear hl9 hm9 hn9; (try k_sweep); (try dsimp only); (try k_fold)))); (first | (with_reducible show wpAny _ _ (subscriptTail _ _ _ (Value.ref _)) _ _ _) | (with_reducible show wpAny _ _ (setItem _ (Value.ref _) _) _ _ _) | dsimp only | skip)) | (walk1; (first | (with_reducible show wpAny _ _ (subscriptTail _ _ _ (Value.ref _)) _ _ _) | (with_reducible show wpAny _ _ (setItem _ (Value.ref _) _) _ _ _) | dsimp only | skip)) | (dsimp only; walk1) | (leave1; (try dsimp only)) | fail "no step")
  (refine' hret _ [(_, _), (_, _), (_, _)] _ _ ?e0 (newsBack hfull hg' (by assumption) (by assumption) ?e1 hex ?e2) (apartBack hfull hg' (by assumption) ?e3 ?e4) ⟨_, _, _, rfl, List.Mem.head _, ⟨_, _, _, _, _, _, _, _, rfl, List.Mem.tail _ (List.Mem.head _), List.Mem.tail _ (List.Mem.tail _ (List.Mem.head _)), by assumption, by assumption⟩⟩; (case e0 => k_asm); (case e1 => (repeat' (first | exact List.forall_mem_nil _ | refine List.forall_mem_cons.mpr ⟨by k_mem, ?_⟩))); (case e2 => (repeat' (first | exact List.forall_mem_nil _ | refine List.forall_mem_cons.mpr ⟨by k_mem, ?_⟩))); (case e3 => (repeat' (first | exact List.forall_mem_nil _ | refine List.forall_mem_cons.mpr ⟨by k_mem, ?_⟩))); (case e4 => (repeat' (first | exact List.forall_mem_nil _ | refine List.forall_mem_cons.mpr ⟨by first | exact neSub (by assumption) (by repeat' (first | exact List.forall_mem_nil _ | refine List.forall_mem_cons.mpr ⟨by k_mem, ?_⟩)) | k_all, ?_⟩))))
theorem turned2_does (w : World) (mean : ExcName → Option Value) (mg mb : Str → Option Value) (l x y z dx dy dz : Addr) (ox oy oz : Obj) (n nx ny nz : Nat) (a1 a2 a3 a4 a5 a6 a7 b1 b2 b3 b4 b5 b6 b7 c1 c2 c3 c4 c5 c6 c7 : Int) (p1 p2 p3 p4 q1 q2 q3 q4 r1 r2 r3 r4 k0 : Tok)
    (hxs : (dx == sysModules) = false) (hys : (dy == sysModules) = false) (hzs : (dz == sysModules) = false) (hx : DictIs w ox a5 a6 a7) (hy : DictIs w oy b5 b6 b7) (hz : DictIs w oz c5 c6 c7) :
    Does w mean mg mb 197 [.ref l, .int 2 k0] [(l, listOf [.ref x, .ref y, .ref z].toArray n), (x, tupOf [.int a1 p1, .int a2 p2, .int a3 p3, .int a4 p4, .ref dx] nx), (dx, ox), (y, tupOf [.int b1 q1, .int b2 q2, .int b3 q3, .int b4 q4, .ref dy] ny), (dy, oy), (z, tupOf [.int c1 r1, .int c2 r2, .int c3 r3, .int c4 r4, .ref dz] nz), (dz, oz)] 4
      (fun tl r => ∃ l' n' f, r = .ref l' ∧ (l', listOf [.ref x, .ref y, f].toArray n') ∈ tl ∧ EntryIs w tl f (-c1 + (a1 + b1 + (a1 + b1))) (-c2 + (a2 + b2 + (a2 + b2))) (-c3 + (a3 + b3 + (a3 + b3))) (-c4 + (a4 + b4 + (a4 + b4))) (b5 + a5 + (b5 + a5) + -c5) (b6 + a6 + (b6 + a6) + -c6) (b7 + a7 + (b7 + a7) + -c7)) := by
  unfold Does
  k_fill
  intro dp un gd cn cs a ccd cl outer A₀ base h₀ L m news s Q E B F X N T hk hex hd hu hret
  have hfull := N
  have hN : News h₀ L s.heap _ := fun p hp => N p (hex p hp)
  clear N
  refine wpAny_call ?_
  k_dflt (refine' enterP (binds := [(Str.ofString "entries", .ref l), (Str.ofString "c", .int 2 k0)]) ?k1 ?k2 ?k3 hN ?k5 ?kA ?kF ?kK ?k6 ?k7 ?k8 ?k9 ?kB ?_ ?c2 ?c3 ?c4 ?c5; (case kA => exact rfl); (case kF => exact rfl); (case kK => assumption); (case k1 => k_asm); (case k2 => k_asm); (case k3 => k_asm); (case k5 => k_asm); (case k6 => k_is); (case k7 => k_is); (case k8 => ktr_room); (case k9 => first | exact BindsTo.of_eq rfl | exact binds_K (by k_in) rfl (by k_is) rfl rfl rfl); (case c5 => decide); (case kB => exact locs rfl); (case c2 => exact rfl); (case c3 => exact rfl); (case c4 => exact rfl); k_whole; intro g' L' h' tk' hg' FG' F' N' B' X' T' l1; (try dsimp only); (try k_fold))
  (try k_lt l1)
  repeat' (first | (k_unfold; (try dsimp only)) | (k_end; wrow_close) | ((with_reducible show wpAny _ _ (call (Value.ref _) _) _ _ _); (with_reducible (k_here; (with_reducible show wpAny _ _ (call (Value.ref 190) _) _ _ _); with_unfolding_all ( refine' Does.use (owed_does _ _ _ _ _ _ _ _ _ _ _ _ _ _ _ _ _ _ _ ?zqh1 ?zqh2) ?zqk1 ?zqk2 ?zqk3 ?zqk4 ?zqk5 ?zqk6 ?zqk7 ?zqk8 ?zqk9 ?_; (case zqk1 => k_asm); (case zqk2 => k_asm); (case zqk3 => k_asm); (case zqk4 => k_asm); (case zqk5 => k_asm); (case zqk6 => first | exact rfl | assumption); (case zqk7 => (repeat' (first | exact List.forall_mem_nil _ | refine List.forall_mem_cons.mpr ⟨by k_mem, ?_⟩))); (case zqh1 => assumption); (case zqh2 => assumption); (case zqk8 => ktr_room); (case zqk9 => ktr_units); intro r9 tl9 h9 tk9 F9 N9 hl9 ho9; obtain ⟨t9, d9, o9, n9, u1, u2, u3, u4, e9, hm9, hn9, hs9, hd9⟩ := ho9; subst e9; (have l9 := apartOf hl9 hm9); (have m9 := apartOf hl9 hn9); (replace N9 := newsPick (less := (t9, _) :: (d9, o9) :: _) N9 (List.forall_mem_cons.mpr ⟨List.mem_append_left _ hm9, List.forall_mem_cons.mpr ⟨List.mem_append_left _ hn9, fun _ h => List.mem_append_right _ h⟩⟩)); clear hl9 hm9 hn9; (try k_sweep); (try dsimp only); (try k_fold)))); (first | (with_reducible show wpAny _ _ (subscriptTail _ _ _ (Value.ref _)) _ _ _) | (with_reducible show wpAny _ _ (setItem _ (Value.ref _) _) _ _ _) | dsimp only | skip)) | ((with_reducible show wpAny _ _ (call (Value.ref _) _) _ _ _); (with_reducible (k_here; (with_reducible show wpAny _ _ (call (Value.ref 119) _) _ _ _); with_unfolding_all ( refine' Does.use (stats_does _ _ _ _ _ _ _ _ _ _ _ _ _ _ _ _ _ _ _ _ _ _ _ _ _ _ _ _ _ _ _ _ _ _ ?zqh1 ?zqh2 ?zqh3 ?zqh4) ?zqk1 ?zqk2 ?zqk3 ?zqk4 ?zqk5 ?zqk6 ?zqk7 ?zqk8 ?zqk9 ?_; (case zqk1 => k_asm); (case zqk2 => k_asm); (case zqk3 => k_asm); (case zqk4 => k_asm); (case zqk5 => k_asm); (case zqk6 => first | exact rfl | assumption); (case zqk7 => (repeat' (first | exact List.forall_mem_nil _ | refine List.forall_mem_cons.mpr ⟨by k_mem, ?_⟩))); (case zqh1 => assumption); (case zqh2 => assumption); (case zqh3 => assumption); (case zqh4 => assumption); (case zqk8 => ktr_room); (case zqk9 => ktr_units); intro r9 tl9 h9 tk9 F9 N9 hl9 ho9; obtain ⟨t9, d9, o9, n9, u1, u2, u3, u4, e9, hm9, hn9, hs9, hd9⟩ := ho9; subst e9; (have l9 := apartOf hl9 hm9); (have m9 := apartOf hl9 hn9); (replace N9 := newsPick (less := (t9, _) :: (d9, o9) :: _) N9 (List.forall_mem_cons.mpr ⟨List.mem_append_left _ hm9, List.forall_mem_cons.mpr ⟨List.mem_append_left _ hn9, fun _ h => List.mem_append_right _ h⟩⟩)); clear hl9 hm9 hn9; (try k_sweep); (try dsimp only); (try k_fold)))); (first | (with_reducible show wpAny _ _ (subscriptTail _ _ _ (Value.ref _)) _ _ _) | (with_reducible show wpAny _ _ (setItem _ (Value.ref _) _) _ _ _) | dsimp only | skip)) | (walk1; (first | (with_reducible show wpAny _ _ (subscriptTail _ _ _ (Value.ref _)) _ _ _) | (with_reducible show wpAny _ _ (setItem _ (Value.ref _) _) _ _ _) | dsimp only | skip)) | (dsimp only; walk1) | (leave1; (try dsimp only)) | fail "no step")
  (refine' hret _ [(_, _), (_, _), (_, _)] _ _ ?e0 (newsBack hfull hg' (by assumption) (by assumption) ?e1 hex ?e2) (apartBack hfull hg' (by assumption) ?e3 ?e4) ⟨_, _, _, rfl, List.Mem.head _, ⟨_, _, _, _, _, _, _, _, rfl, List.Mem.tail _ (List.Mem.head _), List.Mem.tail _ (List.Mem.tail _ (List.Mem.head _)), by assumption, by assumption⟩⟩; (case e0 => k_asm); (case e1 => (repeat' (first | exact List.forall_mem_nil _ | refine List.forall_mem_cons.mpr ⟨by k_mem, ?_⟩))); (case e2 => (repeat' (first | exact List.forall_mem_nil _ | refine List.forall_mem_cons.mpr ⟨by k_mem, ?_⟩))); (case e3 => (repeat' (first | exact List.forall_mem_nil _ | refine List.forall_mem_cons.mpr ⟨by k_mem, ?_⟩))); (case e4 => (repeat' (first | exact List.forall_mem_nil _ | refine List.forall_mem_cons.mpr ⟨by first | exact neSub (by assumption) (by repeat' (first | exact List.forall_mem_nil _ | refine List.forall_mem_cons.mpr ⟨by k_mem, ?_⟩)) | k_all, ?_⟩))))
end
end Mine
end

section
open PySem PySem.W PyProof.Rows PySem.Calls PySem.Spec
set_option maxRecDepth 100000
namespace Mine
section
variable {prog : Program} {w : World} {A : Around} {E : Value → Shared → Prop} {s : Shared} {env : Env} {h₀ : Heap} {x : Str} {body : List Stmt} {Q : Flow → Shared → Prop} {σ : Type}
/-- the end of a turn -/
def LEnd (LedOf : σ → Led) (ps : σ → List (Str × Value)) (stored : List Str) (Inv : σ → Prop) (h₀ : Heap) (L : Addr) (x : Str) (m₀ : Str → Option Value) (I : Addr) (oI : Obj) (s₁ s₂ : Shared) : Prop :=
  ∃ c h' tk' m', s₂ = { s₁ with heap := h', toks := tk' } ∧ Fr h₀ L h' m' ∧ News h₀ L h' ((I, oI) :: LedOf c) ∧ NeAll I (LedOf c) ∧ (∀ p ∈ ps c, m' p.1 = some p.2) ∧ (∀ z, z ≠ x → (∀ p ∈ ps c, z ≠ p.1) → stored.contains z = false → m' z = m₀ z) ∧ Inv c
def LPost (LedOf : σ → Led) (ps : σ → List (Str × Value)) (stored : List Str) (Inv : σ → Prop) (h₀ : Heap) (L : Addr) (x : Str) (m₀ : Str → Option Value) (I : Addr) (oI : Obj) (s₁ : Shared) (Q : Flow → Shared → Prop) (f : Flow) (s₂ : Shared) : Prop :=
  match f with
  | .ret v => Q (.ret v) s₂
  | .brk => Q .next s₂
  | _ => LEnd LedOf ps stored Inv h₀ L x m₀ I oI s₁ s₂
theorem LPost.next {LedOf : σ → Led} {ps : σ → List (Str × Value)} {stored : List Str} {Inv : σ → Prop} {L : Addr} {m₀ m' : Str → Option Value} {I : Addr} {oI : Obj} {s₁ : Shared} {h' : Heap} {tk' : Nat} {news' : Led} (c : σ)
    (F : Fr h₀ L h' m') (N : News h₀ L h' news') (hn : ∀ p ∈ (I, oI) :: LedOf c, p ∈ news') (hne : NeAll I (LedOf c)) (hk : ∀ p ∈ ps c, m' p.1 = some p.2)
    (hr : ∀ z, z ≠ x → (∀ p ∈ ps c, z ≠ p.1) → stored.contains z = false → m' z = m₀ z) (hi : Inv c) : LPost LedOf ps stored Inv h₀ L x m₀ I oI s₁ Q .next { s₁ with heap := h', toks := tk' } :=
  ⟨c, h', tk', m', rfl, F, fun p hp => N p (hn p hp), hne, hk, hr, hi⟩
theorem neAll_symm {I : Addr} {l : Led} (h : NeAll I l) : ∀ p ∈ l, p.1 ∉ [I] := fun p hp e => neAll_at h p hp (List.mem_singleton.mp e).symm
theorem loopCore {I : Addr} {fp : List Addr} {n : Nat} {P : Nat → Value → Prop} {St : Nat → Heap → Prop} {m₀ : Str → Option Value} (LedOf : σ → Led) (ps : σ → List (Str × Value)) (stored : List Str) (Inv : Nat → σ → Prop) (c₀ : σ)
    (W : Walks prog w A I fp [I] n P St) (hI : ∀ i h, St i h → ∃ o, h.get? I = some o) (hLf : env.locals ∉ fp) (hI0 : h₀.get? I = none)
    (hfp : ∀ b ∈ fp, b = I ∨ ∃ o, ∀ i c, Inv i c → (b, o) ∈ LedOf c) (hst : St 0 s.heap) (F : Fr h₀ env.locals s.heap m₀) (N : News h₀ env.locals s.heap (LedOf c₀)) (hne : NeAll I (LedOf c₀))
    (hk : ∀ p ∈ ps c₀, m₀ p.1 = some p.2) (hp : Inv 0 c₀)
    (turn : ∀ i c v (u : Str → Option Value) h tk oI, i < n → P i v → Inv i c → NeAll I (LedOf c) →
      Fr h₀ env.locals h (fun y => if y = x then some v else kstB (fun z => if stored.contains z then u z else m₀ z) (ps c) y) → News h₀ env.locals h ((I, oI) :: LedOf c) →
      wpAny (model prog w) A (execs body env) (LPost LedOf ps stored (Inv (i + 1)) h₀ env.locals x m₀ I oI { s with heap := h, toks := tk } Q) E { s with heap := h, toks := tk })
    (done : ∀ c (u : Str → Option Value) h tk, Inv n c → Fr h₀ env.locals h (fun y => if y = x then u y else kstB (fun z => if stored.contains z then u z else m₀ z) (ps c) y) → News h₀ env.locals h (LedOf c) → Q .next { s with heap := h, toks := tk }) :
    LoopAtV prog w A h₀ env x body Q E (.ref I) s := by
  refine ⟨I, fp, [I], n, P, St, m₀, LedOf c₀, (fun i m nx => ∃ c, nx = LedOf c ∧ (∀ p ∈ ps c, m p.1 = some p.2) ∧ (∀ z, z ≠ x → (∀ p ∈ ps c, z ≠ p.1) → stored.contains z = false → m z = m₀ z) ∧ Inv i c), rfl, W, hLf, ?_, neAll_symm hne, hst, F, N, ⟨c₀, rfl, hk, fun _ _ _ _ => rfl, hp⟩, ?_, ?_⟩
  · intro b hb; rw [List.mem_singleton.mp hb]; exact hI0
  · rintro i v m₁ news₁ s₁ own ⟨hh', tk', rfl⟩ hin hP ⟨c, rfl, h1, h2, hc⟩ hoff hown hget hall hst₁ F₁ N₁
    obtain ⟨oI, hoI⟩ := hI _ _ hst₁
    have hIm : (I, oI) ∈ own := hall I (W.sub _ (List.mem_singleton.mpr rfl)) hI0 oI hoI
    have hneI : NeAll I (LedOf c) := neAll_of fun q hq e => hoff q hq (List.mem_singleton.mpr e.symm)
    have N₂ : News h₀ env.locals hh' ((I, oI) :: LedOf c) := fun p hp => by
      rcases List.mem_cons.mp hp with rfl | hp
      · exact N₁ _ (List.mem_append_left _ hIm)
      · exact N₁ p (List.mem_append_right _ hp)
    have sub : ∀ (c' : σ), Inv (i + 1) c' → ∀ p ∈ own, p ∈ (I, oI) :: LedOf c' := fun c' hc' p hp => by
      rcases hfp p.1 (hown p hp) with e | ⟨o, ho⟩
      · have h := hget p hp
        rw [e] at h
        have : p.2 = oI := Option.some.inj (h.symm.trans hoI)
        exact (Prod.ext e this : p = (I, oI)) ▸ List.Mem.head _
      · have h := hget p hp
        have h' := (N₂ _ (List.mem_cons_of_mem _ (ho i c hc))).1
        have : p.2 = o := Option.some.inj (h.symm.trans h')
        exact List.mem_cons_of_mem _ ((Prod.ext rfl this : p = (p.1, o)) ▸ ho _ c' hc')
    refine wpAny_mono (turn i c v m₁ hh' tk' oI hin hP hc hneI (kst_fr h1 h2 F₁) N₂) (fun f s₂ p => ?_) fun _ _ e => e
    have fin : LEnd LedOf ps stored (Inv (i + 1)) h₀ env.locals x m₀ I oI { s with heap := hh', toks := tk' } s₂ → LoopStepU h₀ env.locals [I] own (fun m nx => ∃ c, nx = LedOf c ∧ (∀ p ∈ ps c, m p.1 = some p.2) ∧ (∀ z, z ≠ x → (∀ p ∈ ps c, z ≠ p.1) → stored.contains z = false → m z = m₀ z) ∧ Inv (i + 1) c) { s with heap := hh', toks := tk' } .next s₂ := by
      rintro ⟨c', h', tk, m', e, F', N', hne', hk', hr', hi'⟩
      exact ⟨rfl, h', tk, m', LedOf c', e, F', fun p hp => N' p ((List.mem_append.mp hp).elim (sub c' hi' p) (List.mem_cons_of_mem _)), neAll_symm hne', c', rfl, hk', hr', hi'⟩
    cases f with
    | ret v => exact .ret p
    | brk => exact .brk p
    | next => exact .next (fin p)
    | cont => exact .cont (fin p)
  · rintro h' tk m' news' F' N' _ ⟨c, rfl, h1, h2, hc⟩
    exact done c m' h' tk hc (kst_frOut h1 h2 F') N'

theorem freshNe {news : Led} {h : Heap} {L : Addr} (N : News h₀ L h news) : NeAll h.objs.size news := neAll_of fun q hq => neN' (Heap.lt_size (N q hq).1)
where neN' {a b : Nat} (h : a < b) : b ≠ a := Nat.ne_of_gt h
/-- a loop over a text of signs below 128 -/
theorem loopText {xt : Str} {tx : Tok} {m₀ : Str → Option Value} (LedOf : σ → Led) (ps : σ → List (Str × Value)) (stored : List Str) (Inv : Nat → σ → Prop) (c₀ : σ) (hh : A.handled = none) (ha : xt.cps.all (· < 128) = true)
    (F : Fr h₀ env.locals s.heap m₀) (N : News h₀ env.locals s.heap (LedOf c₀)) (hk : ∀ p ∈ ps c₀, m₀ p.1 = some p.2) (hp : Inv 0 c₀)
    (turn : ∀ i c k t (u : Str → Option Value) h tk I oI, (∀ p ∈ LedOf c₀, p.1 < I) → i < xt.cps.size → xt.cps[i]? = some k → Inv i c → NeAll I (LedOf c) →
      Fr h₀ env.locals h (fun y => if y = x then some (.str ⟨#[k]⟩ t) else kstB (fun z => if stored.contains z then u z else m₀ z) (ps c) y) → News h₀ env.locals h ((I, oI) :: LedOf c) →
      wpAny (model prog w) A (execs body env) (LPost LedOf ps stored (Inv (i + 1)) h₀ env.locals x m₀ I oI { s with heap := h, toks := tk } Q) E { s with heap := h, toks := tk })
    (done : ∀ c (u : Str → Option Value) h tk, Inv xt.cps.size c → Fr h₀ env.locals h (fun y => if y = x then u y else kstB (fun z => if stored.contains z then u z else m₀ z) (ps c) y) → News h₀ env.locals h (LedOf c) → Q .next { s with heap := h, toks := tk }) :
    wpAny (model prog w) A (pyIter (.str xt tx)) (fun it s₂ => LoopAtV prog w A h₀ env x body Q E it s₂) E s := by
  refine wpAny_pyIter_ascii ha ?_
  refine loopCore LedOf ps stored Inv c₀ (Walks.strAscii hh _ xt tx) (fun _ _ st => let ⟨o, h, _⟩ := st; ⟨o, h⟩) ?_ (next_is_new F) (fun b hb => .inl (List.mem_singleton.mp hb)) ⟨_, Heap.get?_push_size _ rfl, rfl, rfl⟩ (F.push _)
    (fun p hp => ⟨Heap.get?_push_of_some _ (N p hp).1, (N p hp).2⟩) (freshNe N) hk hp ?_ done
  · intro hm; exact absurd F.ns.lt ((List.mem_singleton.mp hm) ▸ Nat.lt_irrefl _)
  · rintro i c v u h tk oI hi ⟨k, t, hkk, rfl⟩ hc hne F₁ N₁
    exact turn i c k t u h tk _ oI (fun p hp => Heap.lt_size (N p hp).1) hi hkk hc hne F₁ N₁
/-- a loop over a made list that the turns leave as it is -/
theorem loopList {l : Addr} {vs : List Value} {nn : Nat} {m₀ : Str → Option Value} (LedOf : σ → Led) (ps : σ → List (Str × Value)) (stored : List Str) (Inv : Nat → σ → Prop) (c₀ : σ) (hh : A.handled = none)
    (hl : ∀ c, (l, listOf vs.toArray nn) ∈ LedOf c)
    (F : Fr h₀ env.locals s.heap m₀) (N : News h₀ env.locals s.heap (LedOf c₀)) (hk : ∀ p ∈ ps c₀, m₀ p.1 = some p.2) (hp : Inv 0 c₀)
    (turn : ∀ i c v (u : Str → Option Value) h tk I oI, (∀ p ∈ LedOf c₀, p.1 < I) → i < vs.length → vs[i]? = some v → Inv i c → NeAll I (LedOf c) →
      Fr h₀ env.locals h (fun y => if y = x then some v else kstB (fun z => if stored.contains z then u z else m₀ z) (ps c) y) → News h₀ env.locals h ((I, oI) :: LedOf c) →
      wpAny (model prog w) A (execs body env) (LPost LedOf ps stored (Inv (i + 1)) h₀ env.locals x m₀ I oI { s with heap := h, toks := tk } Q) E { s with heap := h, toks := tk })
    (done : ∀ c (u : Str → Option Value) h tk, Inv vs.length c → Fr h₀ env.locals h (fun y => if y = x then u y else kstB (fun z => if stored.contains z then u z else m₀ z) (ps c) y) → News h₀ env.locals h (LedOf c) → Q .next { s with heap := h, toks := tk }) :
    wpAny (model prog w) A (pyIter (.ref l)) (fun it s₂ => LoopAtV prog w A h₀ env x body Q E it s₂) E s := by
  have hol : s.heap.get? l = some (listOf vs.toArray nn) := (N _ (hl c₀)).1
  have hls : s.heap.IsList l vs.toArray := ⟨_, hol, rfl, nn, rfl⟩
  have hne : l ≠ s.heap.objs.size := Nat.ne_of_lt (Heap.lt_size hol)
  refine wpAny_pyIter_list hls ?_
  have W := Walks.list (prog := prog) (w := w) hh s.heap.objs.size l hne vs.toArray
  have hlen : vs.toArray.size = vs.length := by simp
  rw [hlen] at W
  refine loopCore LedOf ps stored Inv c₀ W (fun _ _ st => let ⟨⟨o, h, _⟩, _⟩ := st; ⟨o, h⟩) ?_ (next_is_new F) (fun b hb => ?_) ⟨⟨_, Heap.get?_push_size _ rfl, rfl, rfl⟩, hls.at fun o e => Heap.get?_push_of_some _ e⟩ (F.push _)
    (fun p hp => ⟨Heap.get?_push_of_some _ (N p hp).1, (N p hp).2⟩) (freshNe N) hk hp ?_ done
  · intro hm
    rcases List.mem_cons.mp hm with e | hm
    · exact absurd F.ns.lt (e ▸ Nat.lt_irrefl _)
    · exact (N _ (hl c₀)).2.1 ((List.mem_singleton.mp hm).symm)
  · rcases List.mem_cons.mp hb with e | hb
    · exact .inl e
    · rw [List.mem_singleton.mp hb]; exact .inr ⟨_, fun _ c _ => hl c⟩
  · intro i c v u h tk oI hi hv hc hne F₁ N₁
    exact turn i c v u h tk _ oI (fun p hp => Heap.lt_size (N p hp).1) hi (by simpa using hv) hc hne F₁ N₁
end
/-- a mark at which the walk stops -/
def Halt (p : Prop) : Prop := p
theorem Halt.out {p : Prop} (h : Halt p) : p := h
theorem Halt.go {p : Prop} (h : p) : Halt p := h
end Mine
end

section
open PySem PySem.W PyProof.Rows PySem.Calls PySem.Spec
set_option maxRecDepth 100000
namespace Mine
abbrev sAll : Str := Str.ofString "@^~"
/-- the place of a sign among the three -/
def placeOf (k : Nat) : Nat := if k = 64 then 0 else if k = 94 then 1 else 2
section
variable {prog : Program} {w : World} {A : Around} {E : Value → Shared → Prop} {s : Shared} {Q : Value → Shared → Prop}
theorem idx0 {y : Str} {t u : Tok} (hy : y = ⟨#[64]⟩) (h : Q (.int 0 s.toks) { s with toks := s.toks + 1 }) : wpAny (model prog w) A (call (.builtin "str.index") [.str sAll t, .str y u]) Q E s := by
  subst hy; exact SC.index (i := 0) (rest := []) (by decide +kernel) h
theorem idx1 {y : Str} {t u : Tok} (hy : y = ⟨#[94]⟩) (h : Q (.int 1 s.toks) { s with toks := s.toks + 1 }) : wpAny (model prog w) A (call (.builtin "str.index") [.str sAll t, .str y u]) Q E s := by
  subst hy; exact SC.index (i := 1) (rest := []) (by decide +kernel) h
theorem idx2 {y : Str} {t u : Tok} (hy : y = ⟨#[126]⟩) (h : Q (.int 2 s.toks) { s with toks := s.toks + 1 }) : wpAny (model prog w) A (call (.builtin "str.index") [.str sAll t, .str y u]) Q E s := by
  subst hy; exact SC.index (i := 2) (rest := []) (by decide +kernel) h
theorem modR {a b r : Int} {t u : Tok} (h : a.fmod b = r) (hb : b ≠ 0) (hq : Q (.int r s.toks) { s with toks := s.toks + 1 }) : wpAny (model prog w) A (binaryOp .Mod (.int a t) (.int b u)) Q E s := by
  subst h; exact mod_int' hb hq
end

theorem fd_nonneg {k n : Int} (hn : 0 ≤ n) : k.fdiv n = k / n := Int.fdiv_eq_ediv_of_nonneg k hn
end Mine
end

section
open PySem PySem.W PyProof.Rows
set_option Elab.async false
set_option maxRecDepth 100000
set_option maxHeartbeats 8000000
namespace Mine
abbrev l3 (a b c : Int) (ta tb tc : Tok) (n : Nat) : Obj := listOf [.int a ta, .int b tb, .int c tc].toArray n
/-- one level turned over -/
def turnL (k : Nat) (l : Int × Int × Int) : Int × Int × Int :=
  if k = 64 then (2 * (l.1 + l.2.1 + l.2.2) - 3 * l.1, l.2.1, l.2.2) else if k = 94 then (l.1, 2 * (l.1 + l.2.1 + l.2.2) - 3 * l.2.1, l.2.2) else (l.1, l.2.1, 2 * (l.1 + l.2.1 + l.2.2) - 3 * l.2.2)
def lightN (ks : List Nat) (l : Int × Int × Int) : Int × Int × Int := ks.foldl (fun l k => turnL k l) l
def signs (x : Str) : Prop := ∀ k ∈ x.cps.toList, k = 64 ∨ k = 94 ∨ k = 126
theorem signs_ascii {x : Str} (h : signs x) : x.cps.all (· < 128) = true := by
  rw [Array.all_eq_true']
  intro k hk
  have := h k (by simpa using hk)
  simp; omega
section
variable {prog : Program} {w : World} {A : Around} {E : Value → Shared → Prop} {s : Shared} {env : Env} {h₀ : Heap} {x : Str} {body : List Stmt} {Q : Flow → Shared → Prop}
abbrev LtS := Int × Int × Int × Tok × Tok × Tok × Nat
abbrev ltLed (lv : Addr) (rest : Led) (c : LtS) : Led := (lv, l3 c.1 c.2.1 c.2.2.1 c.2.2.2.1 c.2.2.2.2.1 c.2.2.2.2.2.1 c.2.2.2.2.2.2) :: rest
theorem lightLoop {xt : Str} {tx : Tok} {lv : Addr} {n : Nat} {a b c : Int} {ta tb tc : Tok} {rest : Led} {m₀ : Str → Option Value} (hx : signs xt) (hh : A.handled = none)
    (F : Fr h₀ env.locals s.heap m₀) (N : News h₀ env.locals s.heap ((lv, l3 a b c ta tb tc n) :: rest))
    (turn : ∀ (a' b' c' : Int) (ta' tb' tc' : Tok) (n' : Nat) k t (u : Str → Option Value) h tk I oI (Inv : LtS → Prop), (k = 64 ∨ k = 94 ∨ k = 126) → (∀ p ∈ ((lv, l3 a b c ta tb tc n) :: rest), p.1 < I) →
      (∀ y : LtS, (y.1, y.2.1, y.2.2.1) = turnL k (a', b', c') → Inv y) →
      Fr h₀ env.locals h (fun y => if y = x then some (.str ⟨#[k]⟩ t) else if [Str.ofString "c"].contains y then u y else m₀ y) → News h₀ env.locals h ((I, oI) :: (lv, l3 a' b' c' ta' tb' tc' n') :: rest) →
      wpAny (model prog w) A (execs body env) (LPost (ltLed lv rest) (fun _ => []) [Str.ofString "c"] Inv h₀ env.locals x m₀ I oI { s with heap := h, toks := tk } Q) E { s with heap := h, toks := tk })
    (done : ∀ (a' b' c' : Int) (ta' tb' tc' : Tok) (n' : Nat) (u : Str → Option Value) h tk, (a', b', c') = lightN xt.cps.toList (a, b, c) →
      Fr h₀ env.locals h (fun y => if y = x then u y else if [Str.ofString "c"].contains y then u y else m₀ y) → News h₀ env.locals h ((lv, l3 a' b' c' ta' tb' tc' n') :: rest) → Q .next { s with heap := h, toks := tk }) :
    wpAny (model prog w) A (pyIter (.str xt tx)) (fun it s₂ => LoopAtV prog w A h₀ env x body Q E it s₂) E s := by
  refine loopText (ltLed lv rest) (fun _ => []) [Str.ofString "c"] (fun i y => (y.1, y.2.1, y.2.2.1) = lightN (xt.cps.toList.take i) (a, b, c)) (a, b, c, ta, tb, tc, n) hh (signs_ascii hx) F N (fun _ hp => nomatch hp) rfl ?_ ?_
  · rintro i ⟨a', b', c', ta', tb', tc', n'⟩ k t u h tk I oI hlt hi hk hc hne F₁ N₁
    refine turn a' b' c' ta' tb' tc' n' k t u h tk I oI _ (hx k (by simpa using Array.mem_of_getElem? hk)) hlt (fun y hy => ?_) F₁ N₁
    have hk' : xt.cps.toList[i]? = some k := by simpa using hk
    rw [hy]
    show turnL k (a', b', c') = _
    rw [show (a', b', c') = _ from hc, List.take_add_one, hk']
    simp [lightN, List.foldl_append]
  · rintro ⟨a', b', c', ta', tb', tc', n'⟩ u h tk hc F₁ N₁
    refine done a' b' c' ta' tb' tc' n' u h tk ?_ F₁ N₁
    have e : xt.cps.toList.take xt.cps.size = xt.cps.toList := List.take_of_length_le (by simp)
    rw [e] at hc
    exact hc
end
section
theorem light_does (w : World) (mean : ExcName → Option Value) (mg mb : Str → Option Value) (l : Addr) (n : Nat) (xt : Str) (tx : Tok) (a b c : Int) (ta tb tc : Tok) (hx : signs xt) :
    Does w mean mg mb 178 [.str xt tx, .ref l] [(l, l3 a b c ta tb tc n)] 1
      (fun tl r => ∃ l' n' t1 t2 t3, r = .ref l' ∧ (l', l3 (lightN xt.cps.toList (a, b, c)).1 (lightN xt.cps.toList (a, b, c)).2.1 (lightN xt.cps.toList (a, b, c)).2.2 t1 t2 t3 n') ∈ tl) := by
  unfold Does
  k_fill
  intro dp un gd cn cs a ccd cl outer A₀ base h₀ L m news s Q E B F X N T hk hex hd hu hret
  have hfull := N
  have hN : News h₀ L s.heap _ := fun p hp => N p (hex p hp)
  clear N
  refine wpAny_call ?_
  k_dflt (refine' enterP (binds := [(Str.ofString "text", .str xt tx), (Str.ofString "first", .ref l)]) ?k1 ?k2 ?k3 hN ?k5 ?kA ?kF ?kK ?k6 ?k7 ?k8 ?k9 ?kB ?_ ?c2 ?c3 ?c4 ?c5; (case kA => exact rfl); (case kF => exact rfl); (case kK => assumption); (case k1 => k_asm); (case k2 => k_asm); (case k3 => k_asm); (case k5 => k_asm); (case k6 => k_is); (case k7 => k_is); (case k8 => ktr_room); (case k9 => first | exact BindsTo.of_eq rfl | exact binds_K (by k_in) rfl (by k_is) rfl rfl rfl); (case c5 => decide); (case kB => exact locs rfl); (case c2 => exact rfl); (case c3 => exact rfl); (case c4 => exact rfl); k_whole; intro g' L' h' tk' hg' FG' F' N' B' X' T' l1; (try dsimp only); (try k_fold))
  (try k_lt l1)
  repeat' (first | (k_unfold; (try dsimp only)) | (k_end; wrow_close) | ((with_reducible show wpAny _ _ (exec (Stmt.For (PySem.Expr.Name _ _) (PySem.Expr.Name _ _) (_ :: _) [] _) _) _ _ _); (with_reducible (k_here; (rename Fr _ _ _ _ => lF'); (with_unfolding_all refine' For_invVF lF' ?zqk1 ?zqk2 ?_; (case zqk1 => exact rfl); (case zqk2 => exact rfl); k_whole)))) | ((with_reducible show wpAny _ _ (call (Value.builtin "str.index") _) _ _ _); (with_reducible (k_here; with_unfolding_all (first | refine idx0 rfl ?_ | refine idx1 rfl ?_ | refine idx2 rfl ?_)))) | walk1 | (dsimp only; walk1) | (leave1; (try dsimp only)) | fail "no step")
  rename News _ _ _ _ => N2
  rename Fr _ _ _ _ => F2
  with_unfolding_all refine' lightLoop hx ?hh F2 N2 ?turn ?done
  case hh => rfl
  case turn =>
    clear F2 N2
    intro a' b' c' ta' tb' tc' n' k t u h tk I oI Inv hk l1 hInv F2 N2
    k_lt l1
    rcases hk with rfl | rfl | rfl
    all_goals
      repeat' (first | (k_unfold; (try dsimp only)) | (k_end; wrow_close) | ((with_reducible show wpAny _ _ (exec (Stmt.For (PySem.Expr.Name _ _) (PySem.Expr.Name _ _) (_ :: _) [] _) _) _ _ _); (with_reducible (k_here; (rename Fr _ _ _ _ => lF'); (with_unfolding_all refine' For_invVF lF' ?zqk1 ?zqk2 ?_; (case zqk1 => exact rfl); (case zqk2 => exact rfl); k_whole))); (first | (with_reducible show wpAny _ _ (subscriptTail _ _ _ (Value.ref _)) _ _ _) | (with_reducible show wpAny _ _ (setItem _ (Value.ref _) _) _ _ _) | dsimp only | skip)) | ((with_reducible show wpAny _ _ (call (Value.builtin "str.index") _) _ _ _); (with_reducible (k_here; with_unfolding_all (first | refine idx0 rfl ?_ | refine idx1 rfl ?_ | refine idx2 rfl ?_))); (first | (with_reducible show wpAny _ _ (subscriptTail _ _ _ (Value.ref _)) _ _ _) | (with_reducible show wpAny _ _ (setItem _ (Value.ref _) _) _ _ _) | dsimp only | skip)) | (walk1; (first | (with_reducible show wpAny _ _ (subscriptTail _ _ _ (Value.ref _)) _ _ _) | (with_reducible show wpAny _ _ (setItem _ (Value.ref _) _) _ _ _) | dsimp only | skip)) | (dsimp only; walk1) | (leave1; (try dsimp only)) | fail "no step")
      rename News _ _ _ _ => N3
      rename Fr _ _ _ _ => F3
      refine LPost.next (_, _, _, _, _, _, _) F3 N3 (fun p hp => hp) ⟨Nat.ne_of_gt l1.1, Nat.ne_of_gt l1.2, trivial⟩ (fun _ hp => nomatch hp) (by kst_same) (hInv _ ?_)
      simp [turnL]
      try omega
  case done =>
    clear F2 N2
    intro a' b' c' ta' tb' tc' n' u h tk hL F2 N2
    simp only [← hL] at hret
    repeat' (first | (k_unfold; (try dsimp only)) | (k_end; wrow_close) | ((with_reducible show wpAny _ _ (exec (Stmt.For (PySem.Expr.Name _ _) (PySem.Expr.Name _ _) (_ :: _) [] _) _) _ _ _); (with_reducible (k_here; (rename Fr _ _ _ _ => lF'); (with_unfolding_all refine' For_invVF lF' ?zqk1 ?zqk2 ?_; (case zqk1 => exact rfl); (case zqk2 => exact rfl); k_whole))); (first | (with_reducible show wpAny _ _ (subscriptTail _ _ _ (Value.ref _)) _ _ _) | (with_reducible show wpAny _ _ (setItem _ (Value.ref _) _) _ _ _) | dsimp only | skip)) | ((with_reducible show wpAny _ _ (call (Value.builtin "str.index") _) _ _ _); (with_reducible (k_here; with_unfolding_all (first | refine idx0 rfl ?_ | refine idx1 rfl ?_ | refine idx2 rfl ?_))); (first | (with_reducible show wpAny _ _ (subscriptTail _ _ _ (Value.ref _)) _ _ _) | (with_reducible show wpAny _ _ (setItem _ (Value.ref _) _) _ _ _) | dsimp only | skip)) | (walk1; (first | (with_reducible show wpAny _ _ (subscriptTail _ _ _ (Value.ref _)) _ _ _) | (with_reducible show wpAny _ _ (setItem _ (Value.ref _) _) _ _ _) | dsimp only | skip)) | (dsimp only; walk1) | (leave1; (try dsimp only)) | fail "no step")
    (refine' hret _ [(_, _)] _ _ ?e0 (newsBack hfull hg' (by assumption) (by assumption) ?e1 hex ?e2) (apartBack hfull hg' (by assumption) ?e3 ?e4) ⟨_, _, _, _, _, rfl, List.Mem.head _⟩; (case e0 => k_asm); (case e1 => (repeat' (first | exact List.forall_mem_nil _ | refine List.forall_mem_cons.mpr ⟨by k_mem, ?_⟩))); (case e2 => (repeat' (first | exact List.forall_mem_nil _ | refine List.forall_mem_cons.mpr ⟨by k_mem, ?_⟩))); (case e3 => (repeat' (first | exact List.forall_mem_nil _ | refine List.forall_mem_cons.mpr ⟨by k_mem, ?_⟩))); (case e4 => (repeat' (first | exact List.forall_mem_nil _ | refine List.forall_mem_cons.mpr ⟨by first | exact neSub (by assumption) (by repeat' (first | exact List.forall_mem_nil _ | refine List.forall_mem_cons.mpr ⟨by k_mem, ?_⟩)) | k_all, ?_⟩))))
end
end Mine
end

section
open PySem PySem.W PyProof.Rows
set_option Elab.async false
set_option maxRecDepth 100000
set_option maxHeartbeats 8000000
namespace Mine
/-- an entry's numbers -/
structure E7 where
  (cc nc tt ct r g b : Int)
def EntIs (w : World) (led : Led) (v : Value) (e : E7) : Prop := EntryIs w led v e.cc e.nc e.tt e.ct e.r e.g e.b
theorem EntIs.mono {w : World} {led led' : Led} {v : Value} {e : E7} (h : EntIs w led v e) (hs : ∀ p ∈ led, p ∈ led') : EntIs w led' v e := EntryIs.mono h hs
/-- the list of three entries -/
def EntsIs (w : World) (led : Led) (v : Value) (e0 e1 e2 : E7) : Prop :=
  ∃ l n t0 t1 t2, v = .ref l ∧ (l, listOf [t0, t1, t2].toArray n) ∈ led ∧ EntIs w led t0 e0 ∧ EntIs w led t1 e1 ∧ EntIs w led t2 e2
theorem EntsIs.mono {w : World} {led led' : Led} {v : Value} {e0 e1 e2 : E7} (h : EntsIs w led v e0 e1 e2) (hs : ∀ p ∈ led, p ∈ led') : EntsIs w led' v e0 e1 e2 := by
  obtain ⟨l, n, t0, t1, t2, h1, h2, h3, h4, h5⟩ := h
  exact ⟨l, n, t0, t1, t2, h1, hs _ h2, h3.mono hs, h4.mono hs, h5.mono hs⟩
/-- what the law's entries are -/
def entOf (ks : List Nat) (f : Int × Int × Int) : E7 × E7 × E7 :=
  let R := lightN ks (1, 0, 0)
  let G := lightN ks (0, 1, 0)
  let B := lightN ks (0, 0, 1)
  let T := lightN ks f
  (⟨R.1, G.1, B.1, T.1, R.1 * f.1, G.1 * f.2.1, B.1 * f.2.2⟩, ⟨R.2.1, G.2.1, B.2.1, T.2.1, R.2.1 * f.1, G.2.1 * f.2.1, B.2.1 * f.2.2⟩, ⟨R.2.2, G.2.2, B.2.2, T.2.2, R.2.2 * f.1, G.2.2 * f.2.1, B.2.2 * f.2.2⟩)
theorem pick7 {p1 p2 p3 p4 p5 p6 p7 : Addr × Obj} {rest : Led} : ∀ q ∈ [p7, p5, p6, p3, p4, p1, p2], q ∈ p1 :: p2 :: p3 :: p4 :: p5 :: p6 :: p7 :: rest := by
  intro q hq
  simp only [List.mem_cons, List.not_mem_nil, or_false] at hq ⊢
  rcases hq with h | h | h | h | h | h | h <;> simp [h]
theorem apart7 {p1 p2 p3 p4 p5 p6 p7 : Addr × Obj} {l : Addr} {o : Obj} (h1 : @LT.lt Nat _ l p1.1) (h2 : @LT.lt Nat _ l p2.1) (h3 : @LT.lt Nat _ l p3.1) (h4 : @LT.lt Nat _ l p4.1) (h5 : @LT.lt Nat _ l p5.1) (h6 : @LT.lt Nat _ l p6.1) (h7 : @LT.lt Nat _ l p7.1) :
    ∀ p ∈ [p7, p5, p6, p3, p4, p1, p2], ∀ q ∈ [(l, o)], p.1 ≠ q.1 := by
  intro p hp q hq
  rw [List.mem_singleton.mp hq]
  simp only [List.mem_cons, List.not_mem_nil, or_false] at hp
  rcases hp with h | h | h | h | h | h | h <;> (rw [h]; apply Nat.ne_of_gt; assumption)
theorem bits16 {l : List Int} (h : ∀ j, 0 ≤ l.getD j 0 ∧ l.getD j 0 ≤ 16) (x : Int) (j : Nat) : IntMulOk x (l.getD j 0) :=
  IntMulOk.of_right (PySem.intBits_le_64 (by have := h j; omega) (by have := h j; omega))
/-- light_does with its numbers as variables: the walk's terms stay small -/
theorem light_gen (w : World) (mean : ExcName → Option Value) (mg mb : Str → Option Value) (l : Addr) (n : Nat) (xt : Str) (tx : Tok) (a b c : Int) (ta tb tc : Tok) (hx : signs xt) :
    Does w mean mg mb 178 [.str xt tx, .ref l] [(l, l3 a b c ta tb tc n)] 1
      (fun tl r => ∃ l' n' t1 t2 t3 x y z, lightN xt.cps.toList (a, b, c) = (x, y, z) ∧ r = .ref l' ∧ (l', l3 x y z t1 t2 t3 n') ∈ tl) := by
  intro dp un gd cn cs aa ccd cl outer A₀ base h₀ L m news s Q E B F X N T hk hex hd hu hret
  exact light_does w mean mg mb l n xt tx a b c ta tb tc hx dp un gd cn cs aa ccd cl outer A₀ base h₀ L m news s Q E B F X N T hk hex hd hu
    fun r tl h' tk' F' N' ap ⟨l', n', t1, t2, t3, e, hm⟩ => hret r tl h' tk' F' N' ap ⟨l', n', t1, t2, t3, _, _, _, rfl, e, hm⟩
section
theorem entries_does (w : World) (mean : ExcName → Option Value) (mg mb : Str → Option Value) (l : Addr) (n : Nat) (xt : Str) (tx : Tok) (a b c : Int) (ta tb tc : Tok) (hx : signs xt)
    (ha : 0 ≤ a ∧ a ≤ 16) (hb : 0 ≤ b ∧ b ≤ 16) (hc : 0 ≤ c ∧ c ≤ 16) :
    Does w mean mg mb 185 [.str xt tx, .ref l] [(l, l3 a b c ta tb tc n)] 2
      (fun tl r => EntsIs w tl r (entOf xt.cps.toList (a, b, c)).1 (entOf xt.cps.toList (a, b, c)).2.1 (entOf xt.cps.toList (a, b, c)).2.2) := by
  have hf : ∀ j, 0 ≤ [a, b, c].getD j 0 ∧ [a, b, c].getD j 0 ≤ 16 := by
    intro j
    match j with
    | 0 => exact ha
    | 1 => exact hb
    | 2 => exact hc
    | (_ + 3) => exact ⟨Int.le_refl 0, (by decide : (0 : Int) ≤ 16)⟩
  clear ha hb hc
  unfold Does
  k_fill
  intro dp un gd cn cs a ccd cl outer A₀ base h₀ L m news s Q E B F X N T hk hex hd hu hret
  have hfull := N
  have hN : News h₀ L s.heap _ := fun p hp => N p (hex p hp)
  clear N
  refine wpAny_call ?_
  k_dflt (refine' enterP (binds := [(Str.ofString "text", .str xt tx), (Str.ofString "first", .ref l)]) ?k1 ?k2 ?k3 hN ?k5 ?kA ?kF ?kK ?k6 ?k7 ?k8 ?k9 ?kB ?_ ?c2 ?c3 ?c4 ?c5; (case kA => exact rfl); (case kF => exact rfl); (case kK => assumption); (case k1 => k_asm); (case k2 => k_asm); (case k3 => k_asm); (case k5 => k_asm); (case k6 => k_is); (case k7 => k_is); (case k8 => ktr_room); (case k9 => first | exact BindsTo.of_eq rfl | exact binds_K (by k_in) rfl (by k_is) rfl rfl rfl); (case c5 => decide); (case kB => exact locs rfl); (case c2 => exact rfl); (case c3 => exact rfl); (case c4 => exact rfl); k_whole; intro g' L' h' tk' hg' FG' F' N' B' X' T' l1; (try dsimp only); (try k_fold))
  (try k_lt l1)
  repeat' (first | (k_unfold; (try dsimp only)) | (k_end; wrow_close) | ((with_reducible show wpAny _ _ (binaryOp Operator.Mult (Value.int _ _) (Value.int _ _)) _ _ _); (with_reducible (k_here; with_unfolding_all (refine P.mul_int ?_ (bits16 (by assumption) _ _)))); (first | (with_reducible show wpAny _ _ (subscriptTail _ _ _ (Value.ref _)) _ _ _) | (with_reducible show wpAny _ _ (setItem _ (Value.ref _) _) _ _ _) | dsimp only | skip)) | ((with_reducible show wpAny _ _ (call (Value.ref _) _) _ _ _); (with_reducible (k_here; (with_reducible show wpAny _ _ (call (Value.ref 178) _) _ _ _); with_unfolding_all ( refine' Does.use (light_gen _ _ _ _ _ _ _ _ _ _ _ _ _ _ ?zqh1) ?zqk1 ?zqk2 ?zqk3 ?zqk4 ?zqk5 ?zqk6 ?zqk7 ?zqk8 ?zqk9 ?_; (case zqk1 => k_asm); (case zqk2 => k_asm); (case zqk3 => k_asm); (case zqk4 => k_asm); (case zqk5 => k_asm); (case zqk6 => first | exact rfl | assumption); (case zqk7 => (repeat' (first | exact List.forall_mem_nil _ | refine List.forall_mem_cons.mpr ⟨by k_mem, ?_⟩))); (case zqh1 => assumption); (case zqk8 => ktr_room); (case zqk9 => ktr_units); intro r9 tl9 h9 tk9 F9 N9 hl9 ho9; obtain ⟨t9, n9, u1, u2, u3, x9, y9, z9, q9, e9, hm9⟩ := ho9; subst e9; (have l9 := apartOf hl9 hm9); (replace N9 := newsPick (less := (t9, _) :: _) N9 (List.forall_mem_cons.mpr ⟨List.mem_append_left _ hm9, fun _ h => List.mem_append_right _ h⟩)); clear hl9 hm9; (try k_sweep); (try dsimp only); (try k_fold)))); (first | (with_reducible show wpAny _ _ (subscriptTail _ _ _ (Value.ref _)) _ _ _) | (with_reducible show wpAny _ _ (setItem _ (Value.ref _) _) _ _ _) | dsimp only | skip)) | (walk1; (first | (with_reducible show wpAny _ _ (subscriptTail _ _ _ (Value.ref _)) _ _ _) | (with_reducible show wpAny _ _ (setItem _ (Value.ref _) _) _ _ _) | dsimp only | skip)) | (dsimp only; walk1) | (leave1; (try dsimp only)) | fail "no step")
  rename News _ _ _ _ => N3
  rename lightN _ _ = _ => qT
  rename lightN _ (1, 0, 0) = _ => qR
  rename lightN _ (0, 1, 0) = _ => qG
  rename lightN _ (0, 0, 1) = _ => qB
  simp only [entOf, qR, qG, qB, qT] at hret
  try simp only [List.push_toArray, List.nil_append, List.cons_append] at N3
  refine' hret _ _ _ _ ?e0 (newsBack hfull hg' (by assumption) N3 ?e1 hex pick7) (apartBack hfull hg' (by assumption) pick7 ?e4) ⟨_, _, _, _, _, rfl, List.Mem.head _, ?E0, ?E1, ?E2⟩
  case e0 => k_asm
  case e1 => (repeat' (first | exact List.forall_mem_nil _ | refine List.forall_mem_cons.mpr ⟨by k_mem, ?_⟩))
  case E0 =>
    (rename PyProof.V.FlatPairs _ _ _ => q); clear q
    (rename PyProof.V.FlatPairs _ _ _ => q); clear q
    rename PyProof.V.FlatPairs _ _ _ => q
    refine ⟨_, _, _, _, _, _, _, _, rfl, List.Mem.tail _ (List.Mem.head _), List.Mem.tail _ (List.Mem.tail _ (List.Mem.head _)), by with_reducible assumption, _, by with_reducible assumption, ?_⟩
    exact q
  case E1 =>
    (rename PyProof.V.FlatPairs _ _ _ => q); clear q
    rename PyProof.V.FlatPairs _ _ _ => q
    refine ⟨_, _, _, _, _, _, _, _, rfl, List.Mem.tail _ (List.Mem.tail _ (List.Mem.tail _ (List.Mem.head _))), List.Mem.tail _ (List.Mem.tail _ (List.Mem.tail _ (List.Mem.tail _ (List.Mem.head _)))), by with_reducible assumption, _, by with_reducible assumption, ?_⟩
    exact q
  case E2 =>
    rename PyProof.V.FlatPairs _ _ _ => q
    refine ⟨_, _, _, _, _, _, _, _, rfl, List.Mem.tail _ (List.Mem.tail _ (List.Mem.tail _ (List.Mem.tail _ (List.Mem.tail _ (List.Mem.head _))))), List.Mem.tail _ (List.Mem.tail _ (List.Mem.tail _ (List.Mem.tail _ (List.Mem.tail _ (List.Mem.tail _ (List.Mem.head _)))))), by with_reducible assumption, _, by with_reducible assumption, ?_⟩
    exact q
  case e4 =>
    refine apart7 ?_ ?_ ?_ ?_ ?_ ?_ ?_
    all_goals (dsimp only; omega)
end
end Mine
end

section
open PySem PySem.W PyProof.Rows PySem.Builtin PySem.Builtin.Str PySem.StrLaws
set_option maxRecDepth 100000
namespace Mine
/-- no two neighbours alike -/
def NoDbl (w : List Nat) : Prop := ∀ (i k : Nat), w[i]? = some k → w[i + 1]? ≠ some k
def NoPair (c : Nat) (l : List Nat) : Prop := ∀ i, ¬ (l[i]? = some c ∧ l[i + 1]? = some c)
theorem NoDbl.pair {w : List Nat} (h : NoDbl w) (c : Nat) : NoPair c w := fun i ⟨a, b⟩ => h i c a b
theorem two_at (l : List Nat) (i c : Nat) : (l.drop i).take 2 = [c, c] ↔ l[i]? = some c ∧ l[i + 1]? = some c := by
  constructor
  · intro h
    have h0 : ((l.drop i).take 2)[0]? = some c := by rw [h]; rfl
    have h1 : ((l.drop i).take 2)[1]? = some c := by rw [h]; rfl
    rw [List.getElem?_take_of_lt (by decide), List.getElem?_drop] at h0 h1
    exact ⟨by simpa using h0, h1⟩
  · rintro ⟨h0, h1⟩
    refine List.ext_getElem? fun j => ?_
    match j with
    | 0 => rw [List.getElem?_take_of_lt (by decide), List.getElem?_drop]; simpa using h0
    | 1 => rw [List.getElem?_take_of_lt (by decide), List.getElem?_drop]; simpa using h1
    | (j + 2) =>
      rw [List.getElem?_eq_none (by simp; omega), List.getElem?_eq_none (by simp)]
theorem at_iff (l : List Nat) (c k : Nat) : At ⟨l.toArray⟩ ⟨#[c, c]⟩ (⟨l.toArray⟩ : Str).length k ↔ l[k]? = some c ∧ l[k + 1]? = some c := by
  unfold At
  rw [subAt_eq]
  have e : ((⟨#[c, c]⟩ : Str).cps.toList) = [c, c] := rfl
  have e2 : (⟨#[c, c]⟩ : Str).length = 2 := rfl
  have e3 : (⟨l.toArray⟩ : Str).length = l.length := by simp [Str.length]
  rw [e, e2, e3, beq_iff_eq, two_at]
  constructor
  · exact fun h => h.2
  · intro h
    have := (List.getElem?_eq_some_iff.mp h.2).1
    exact ⟨by omega, h⟩
theorem rep_none {l : List Nat} {c : Nat} (h : NoPair c l) : Txt.replace ⟨l.toArray⟩ ⟨#[c, c]⟩ ⟨#[]⟩ = ⟨l.toArray⟩ := by
  obtain ⟨f, hG, _⟩ := occ_tight ⟨l.toArray⟩ ⟨#[c, c]⟩ (by show 1 ≤ 2; decide)
  unfold Txt.replace
  cases ho : occurrences ⟨l.toArray⟩ ⟨#[c, c]⟩ 0 (⟨l.toArray⟩ : Str).length ((⟨l.toArray⟩ : Str).length + 1) with
  | nil => simp
  | cons i r =>
    rw [ho] at hG
    exact absurd ((at_iff l c i).mp hG.2.1) (h i)
theorem rep_end {w : List Nat} {c : Nat} (h : NoPair c (w ++ [c])) : Txt.replace ⟨(w ++ [c, c]).toArray⟩ ⟨#[c, c]⟩ ⟨#[]⟩ = ⟨w.toArray⟩ := by
  have only : ∀ k, At ⟨(w ++ [c, c]).toArray⟩ ⟨#[c, c]⟩ (⟨(w ++ [c, c]).toArray⟩ : Str).length k → k = w.length := by
    intro k hk
    obtain ⟨h0, h1⟩ := (at_iff _ c k).mp hk
    have hlt := (List.getElem?_eq_some_iff.mp h1).1
    simp at hlt
    have hle : k ≤ w.length := by omega
    by_cases e : k = w.length
    · exact e
    · have e1 : w ++ [c, c] = (w ++ [c]) ++ [c] := by simp
      rw [e1, List.getElem?_append_left (by simp; omega)] at h0 h1
      exact absurd ⟨h0, h1⟩ (h k)
  have there : At ⟨(w ++ [c, c]).toArray⟩ ⟨#[c, c]⟩ (⟨(w ++ [c, c]).toArray⟩ : Str).length w.length := (at_iff _ c _).mpr ⟨by simp, by simp⟩
  obtain ⟨f, hG, hn⟩ := occ_tight ⟨(w ++ [c, c]).toArray⟩ ⟨#[c, c]⟩ (by show 1 ≤ 2; decide)
  unfold Txt.replace
  have key : occurrences ⟨(w ++ [c, c]).toArray⟩ ⟨#[c, c]⟩ 0 (⟨(w ++ [c, c]).toArray⟩ : Str).length ((⟨(w ++ [c, c]).toArray⟩ : Str).length + 1) = [w.length] := by
    cases ho : occurrences ⟨(w ++ [c, c]).toArray⟩ ⟨#[c, c]⟩ 0 (⟨(w ++ [c, c]).toArray⟩ : Str).length ((⟨(w ++ [c, c]).toArray⟩ : Str).length + 1) with
    | nil =>
      rw [ho] at hG
      have e : f = 0 := hG
      exact absurd there (hn _ (by omega))
    | cons i r =>
      rw [ho] at hG
      have ei := only i hG.2.1
      subst ei
      cases r with
      | nil => rfl
      | cons j r =>
        have hj := hG.2.2.2
        have ej := only j hj.2.1
        have hle : w.length + (⟨#[c, c]⟩ : Str).length ≤ j := hj.1
        have e2 : (⟨#[c, c]⟩ : Str).length = 2 := rfl
        omega
  rw [key]
  show (if (false || ((2 : Nat) == 0 && _)) = true then _ else glued ⟨#[]⟩ (partsBetween ⟨(w ++ [c, c]).toArray⟩ [w.length] 2)) = _
  rw [if_neg (by simp), partsBetween_eq, glued_eq_join]
  have e3 : (⟨(w ++ [c, c]).toArray⟩ : Str).length = w.length + 2 := by simp [Str.length]
  show strSub _ 0 w.length ++ ⟨#[]⟩ ++ strSub _ (w.length + 2) (⟨(w ++ [c, c]).toArray⟩ : Str).length = _
  rw [e3]
  refine Str.ext' (Array.toList_inj.mp ?_)
  simp [Str.cps_append, strSub]
/-- a sign laid on the end, or struck out with its like -/
def pushS (w : List Nat) (k : Nat) : List Nat := if w.getLast? = some k then w.dropLast else w ++ [k]
theorem noDbl_snoc {w : List Nat} {k : Nat} (h : NoDbl w) (hk : w.getLast? ≠ some k) : NoDbl (w ++ [k]) := by
  intro i c h0 h1
  have hlt := (List.getElem?_eq_some_iff.mp h1).1
  simp at hlt
  by_cases e : i + 1 < w.length
  · rw [List.getElem?_append_left (by omega)] at h0
    rw [List.getElem?_append_left e] at h1
    exact h i c h0 h1
  · have e1 : i + 1 = w.length := by omega
    rw [List.getElem?_append_left (by omega)] at h0
    rw [e1] at h1
    simp at h1
    rw [List.getLast?_eq_getElem?] at hk
    have : w.length - 1 = i := by omega
    rw [this, h0] at hk
    exact hk (by rw [h1])
theorem noDbl_take {w : List Nat} (h : NoDbl w) (n : Nat) : NoDbl (w.take n) := by
  intro i c h0 h1
  have h0' := List.getElem?_eq_some_iff.mp h0
  have h1' := List.getElem?_eq_some_iff.mp h1
  have a0 := h0'.1
  have a1 := h1'.1
  simp at a0 a1
  rw [List.getElem?_take_of_lt (by omega)] at h0
  rw [List.getElem?_take_of_lt (by omega)] at h1
  exact h i c h0 h1
theorem noDbl_dropLast {w : List Nat} (h : NoDbl w) : NoDbl w.dropLast := by rw [List.dropLast_eq_take]; exact noDbl_take h _
theorem noDbl_push {w : List Nat} {k : Nat} (h : NoDbl w) : NoDbl (pushS w k) := by
  unfold pushS; split
  · exact noDbl_dropLast h
  · rename_i hk; exact noDbl_snoc h hk
theorem pair_other {w : List Nat} {k c : Nat} (h : NoDbl w) (hc : c ≠ k) : NoPair c (w ++ [k]) := by
  rintro i ⟨h0, h1⟩
  have hlt := (List.getElem?_eq_some_iff.mp h1).1
  simp at hlt
  by_cases e : i + 1 < w.length
  · rw [List.getElem?_append_left (by omega)] at h0
    rw [List.getElem?_append_left e] at h1
    exact h i c h0 h1
  · have e1 : i + 1 = w.length := by omega
    rw [e1] at h1
    simp at h1
    exact hc h1.symm
abbrev R3 (x : Str) : Str := Txt.replace (Txt.replace (Txt.replace x ⟨#[64, 64]⟩ ⟨#[]⟩) ⟨#[94, 94]⟩ ⟨#[]⟩) ⟨#[126, 126]⟩ ⟨#[]⟩
def codeOf (j : Int) : Nat := if j = 0 then 64 else if j = 1 then 94 else 126
/-- the signs that are left, number by number -/
def stepT (w : List Nat) (x : Int) : List Nat := if x % 4 = 3 then w.take (w.length - 1 - (x / 4 % 3).toNat) else pushS w (codeOf (x % 4))
def leftN (ns : List Int) : List Nat := ns.foldl stepT []
structure Good (w : List Nat) (n : Nat) : Prop where
  dbl : NoDbl w
  sg : ∀ k ∈ w, k = 64 ∨ k = 94 ∨ k = 126
  len : w.length ≤ n
theorem codeOf_sign (j : Int) : codeOf j = 64 ∨ codeOf j = 94 ∨ codeOf j = 126 := by unfold codeOf; split; · simp
                                                                                     split <;> simp
theorem good_push {w : List Nat} {n k : Nat} (h : Good w n) (hk : k = 64 ∨ k = 94 ∨ k = 126) : Good (pushS w k) (n + 1) where
  dbl := noDbl_push h.dbl
  sg := by
    unfold pushS; split
    · intro c hc; exact h.sg c (List.dropLast_subset _ hc)
    · intro c hc
      rcases List.mem_append.mp hc with hc | hc
      · exact h.sg c hc
      · rw [List.mem_singleton.mp hc]; exact hk
  len := by
    have := h.len
    unfold pushS; split
    · simp; omega
    · simp; omega
theorem good_take {w : List Nat} {n : Nat} (h : Good w n) (m : Nat) : Good (w.take m) (n + 1) where
  dbl := noDbl_take h.dbl m
  sg := fun c hc => h.sg c (List.mem_of_mem_take hc)
  len := by have := h.len; simp; omega
theorem good_step {w : List Nat} {n : Nat} (h : Good w n) (x : Int) : Good (stepT w x) (n + 1) := by
  unfold stepT; split
  · exact good_take h _
  · exact good_push h (codeOf_sign _)
theorem good_fold : ∀ (ns : List Int) {w : List Nat} {n : Nat}, Good w n → Good (ns.foldl stepT w) (n + ns.length)
  | [], _, _, h => h
  | x :: r, w, n, h => by
    have := good_fold r (good_step h x)
    rw [List.length_cons, show n + (r.length + 1) = n + 1 + r.length by omega]
    exact this
theorem good_left (ns : List Int) : Good (leftN ns) ns.length := by
  have := good_fold ns (w := []) (n := 0) ⟨(fun i k h => by simp at h), (fun k h => nomatch h), Nat.le_refl _⟩
  rw [Nat.zero_add] at this
  exact this
abbrev sAt2 : Str := Str.ofString "@@"
abbrev sCa2 : Str := Str.ofString "^^"
abbrev sTi2 : Str := Str.ofString "~~"
abbrev sNil : Str := Str.ofString ""
theorem sAt2_eq : sAt2 = ⟨#[64, 64]⟩ := by decide +kernel
theorem sCa2_eq : sCa2 = ⟨#[94, 94]⟩ := by decide +kernel
theorem sTi2_eq : sTi2 = ⟨#[126, 126]⟩ := by decide +kernel
theorem sNil_eq : sNil = ⟨#[]⟩ := by decide +kernel
theorem R3_steps {w : List Nat} {k : Nat} (h : Good w 12) (hk : k = 64 ∨ k = 94 ∨ k = 126) : ∃ a1 a2 : List Nat, Txt.replace ⟨(w ++ [k]).toArray⟩ sAt2 sNil = ⟨a1.toArray⟩ ∧ Txt.replace ⟨a1.toArray⟩ sCa2 sNil = ⟨a2.toArray⟩ ∧
    Txt.replace ⟨a2.toArray⟩ sTi2 sNil = ⟨(pushS w k).toArray⟩ ∧ (w ++ [k]).length ≤ 20 ∧ a1.length ≤ 20 ∧ a2.length ≤ 20 := by
  rw [sAt2_eq, sCa2_eq, sTi2_eq, sNil_eq]
  have hl := h.len
  have hl1 : (w ++ [k]).length ≤ 20 := by simp; omega
  have hl2 : w.dropLast.length ≤ 20 := by simp; omega
  by_cases e : w.getLast? = some k
  · have hw : w = w.dropLast ++ [k] := by
      rw [List.getLast?_eq_some_iff] at e
      obtain ⟨v, rfl⟩ := e
      simp
    have hp : pushS w k = w.dropLast := by unfold pushS; rw [if_pos e]
    have hd := noDbl_dropLast h.dbl
    rw [hp]
    have e2 : w ++ [k] = w.dropLast ++ [k, k] := by
      have : w ++ [k] = (w.dropLast ++ [k]) ++ [k] := by rw [← hw]
      rw [this]; simp
    have same : Txt.replace ⟨(w ++ [k]).toArray⟩ ⟨#[k, k]⟩ ⟨#[]⟩ = ⟨w.dropLast.toArray⟩ := by
      rw [e2]; exact rep_end (by rw [← hw]; exact h.dbl.pair k)
    have other : ∀ c, c ≠ k → Txt.replace ⟨(w ++ [k]).toArray⟩ ⟨#[c, c]⟩ ⟨#[]⟩ = ⟨(w ++ [k]).toArray⟩ := fun c hc => rep_none (pair_other h.dbl hc)
    have after : ∀ c, Txt.replace ⟨w.dropLast.toArray⟩ ⟨#[c, c]⟩ ⟨#[]⟩ = ⟨w.dropLast.toArray⟩ := fun c => rep_none (hd.pair c)
    rcases hk with rfl | rfl | rfl
    · exact ⟨_, _, same, after 94, after 126, hl1, hl2, hl2⟩
    · exact ⟨_, _, other 64 (by decide), same, after 126, hl1, hl1, hl2⟩
    · exact ⟨_, _, other 64 (by decide), other 94 (by decide), same, hl1, hl1, hl1⟩
  · have hp : pushS w k = w ++ [k] := by unfold pushS; rw [if_neg e]
    have hd := noDbl_snoc h.dbl e
    rw [hp]
    exact ⟨_, _, rep_none (hd.pair _), rep_none (hd.pair _), rep_none (hd.pair _), hl1, hl1, hl1⟩
section
variable {prog : Program} {w : World} {A : Around} {E : Value → Shared → Prop} {s : Shared}
theorem strLen (v : List Nat) : (⟨v.toArray⟩ : Str).length = v.length := by simp [Str.length]
theorem repW {l l' : List Nat} {y z : Str} {t u v : Tok} {Q : Value → Shared → Prop} (h1 : 1 ≤ s.toks) (h : Txt.replace ⟨l.toArray⟩ y z = ⟨l'.toArray⟩) (hl : l.length ≤ 20) (hu : @LT.lt Nat _ 0 u) (hv : @LT.lt Nat _ 0 v) (huv : @LT.lt Nat _ u v) (hyz : (y == z) = false) (hz : z.length ≤ 14)
    (hq : ∀ t' k, 1 ≤ k → Q (.str ⟨l'.toArray⟩ t') { s with toks := k }) : wpAny (model prog w) A (call (.builtin "str.replace") [.str ⟨l.toArray⟩ t, .str y u, .str z v]) Q E s :=
  wpAny_mono (wpAny_with_toks (E := E) h1 (SC.replaceW (Q := fun v s' => 1 ≤ s'.toks → Q v s') (Nat.ne_of_gt hu) (Nat.ne_of_gt hv) (Nat.ne_of_lt huv) hyz (by rw [strLen]; omega) hz fun t' k hk => by rw [h]; exact hq t' k hk)) (fun _ _ x => x) fun _ _ x => x
theorem lenW {l : List Nat} {t : Tok} {Q : Value → Shared → Prop} (hl : l.length ≤ 20) (h : Q (.int (l.length : Int) (s.toks + 1)) { s with toks := s.toks + 1 + 1 }) : wpAny (model prog w) A (call (.builtin "len") [.str ⟨l.toArray⟩ t]) Q E s := by
  refine PyProof.Rows.len_str (by rw [strLen]; omega) ?_
  rw [strLen]; exact h
theorem addW {l : List Nat} {k : Nat} {y : Str} {t u : Tok} {Q : Value → Shared → Prop} (h1 : 1 ≤ s.toks) (hy : y = ⟨#[k]⟩) (hl : l.length ≤ 20) (h : ∀ t' tk, 1 ≤ tk → Q (.str ⟨(l ++ [k]).toArray⟩ t') { s with toks := tk }) :
    wpAny (model prog w) A (binaryOp .Add (.str ⟨l.toArray⟩ t) (.str y u)) Q E s := by
  subst hy
  have e : (⟨l.toArray⟩ : Str) ++ ⟨#[k]⟩ = ⟨(l ++ [k]).toArray⟩ := by
    refine Str.ext' (Array.toList_inj.mp ?_)
    simp [Str.cps_append]
  refine wpAny_with_toks h1 (wpAny_mono (PyProof.Rows.add_str (E := E) (Q := fun v s' => 1 ≤ s'.toks → Q v s') (fun t' tk hk => by rw [e]; exact h t' tk hk) ?_) (fun _ _ x => x) fun _ _ x _ => x)
  rw [strLen, sizeLine_eq]
  show l.length + 1 ≤ _
  omega
end
theorem sliceW {v : List Nat} {j : Int} (h0 : 0 ≤ j) (h1 : j ≤ v.length) : Txt.slice ⟨v.toArray⟩ none (some j) = ⟨(v.take j.toNat).toArray⟩ := by
  have h := eq_of_beq (slice_closes_to (x := ⟨v.toArray⟩) (j := j) ⟨h0, by simpa using h1⟩)
  rw [h]
  simp
theorem sliceT {v : List Nat} {k : Int} (hk : 0 ≤ k) (h3 : k % 4 = 3) :
    Txt.slice ⟨v.toArray⟩ none (some (if 0 > (v.length : Int) - 1 - k / 4 % 3 then 0 else (v.length : Int) - 1 - k / 4 % 3)) = ⟨(stepT v k).toArray⟩ := by
  have h5 : 0 ≤ k / 4 % 3 := Int.emod_nonneg _ (by decide)
  unfold stepT
  rw [if_pos h3]
  by_cases h : 0 > (v.length : Int) - 1 - k / 4 % 3
  · rw [if_pos h, sliceW (Int.le_refl 0) (by omega)]
    have : v.length - 1 - (k / 4 % 3).toNat = 0 := by omega
    rw [this]; rfl
  · rw [if_neg h, sliceW (by omega) (by omega)]
    have : ((v.length : Int) - 1 - k / 4 % 3).toNat = v.length - 1 - (k / 4 % 3).toNat := by omega
    rw [this]
theorem stepT_push {v : List Nat} {k : Int} {c : Nat} (h3 : k % 4 ≠ 3) (hc : codeOf (k % 4) = c) : pushS v c = stepT v k := by
  unfold stepT; rw [if_neg h3, hc]
end Mine
end

section
open PySem PySem.W PyProof.Rows
set_option Elab.async false
set_option maxRecDepth 100000
set_option maxHeartbeats 8000000
namespace Mine
/-- the symbol of a number -/
def symOf (x : Int) : Int := if x % 4 = 3 then 256 + x / 4 % 3 else if x % 4 = 0 then 49 else if x % 4 = 1 then 32 else 31
section
variable {prog : Program} {w : World} {A : Around} {E : Value → Shared → Prop} {s : Shared} {env : Env} {h₀ : Heap} {x : Str} {body : List Stmt} {Q : Flow → Shared → Prop}
abbrev rwLed (rw l : Addr) (vs : List Value) (n : Nat) (c : List Value × Nat) : Led := [(rw, listOf c.1.toArray c.2), (l, listOf vs.toArray n)]
theorem rowLoop {l rw : Addr} {vs : List Value} {n n0 : Nat} {ns : List Int} {m₀ : Str → Option Value} (hi : IntsAre vs ns) (hp : ∀ x ∈ ns, 0 ≤ x) (hlen : ns.length ≤ 12) (hh : A.handled = none)
    (F : Fr h₀ env.locals s.heap m₀) (N : News h₀ env.locals s.heap [(rw, listOf #[] n0), (l, listOf vs.toArray n)])
    (turn : ∀ (k : Int) (t : Tok) (vs' : List Value) (n' : Nat) (ns' : List Int) (u : Str → Option Value) h tk I oI (Inv : List Value × Nat → Prop), 0 ≤ k → (@LT.lt Nat _ rw I ∧ @LT.lt Nat _ l I) → IntsAre vs' ns' → ns'.length ≤ 12 →
      (∀ y : List Value × Nat, IntsAre y.1 (ns' ++ [symOf k]) → Inv y) →
      Fr h₀ env.locals h (fun y => if y = x then some (.int k t) else m₀ y) → News h₀ env.locals h [(I, oI), (rw, listOf vs'.toArray n'), (l, listOf vs.toArray n)] →
      wpAny (model prog w) A (execs body env) (LPost (rwLed rw l vs n) (fun _ => []) [] Inv h₀ env.locals x m₀ I oI { s with heap := h, toks := tk } Q) E { s with heap := h, toks := tk })
    (done : ∀ (vs' : List Value) (n' : Nat) (u : Str → Option Value) h tk, IntsAre vs' (ns.map symOf) →
      Fr h₀ env.locals h (fun y => if y = x then u y else m₀ y) → News h₀ env.locals h [(rw, listOf vs'.toArray n'), (l, listOf vs.toArray n)] → Q .next { s with heap := h, toks := tk }) :
    wpAny (model prog w) A (pyIter (.ref l)) (fun it s₂ => LoopAtV prog w A h₀ env x body Q E it s₂) E s := by
  refine loopList (l := l) (vs := vs) (nn := n) (rwLed rw l vs n) (fun _ => []) [] (fun i y => IntsAre y.1 ((ns.take i).map symOf)) ([], n0) hh (fun _ => .tail _ (.head _)) F N (fun _ hp => nomatch hp) .nil ?_ ?_
  · rintro i ⟨vs', n'⟩ v u h tk I oI hlt hi' hv hc hne F₁ N₁
    obtain ⟨k, t, rfl, hk⟩ := IntsAre.at hi i v hv
    have h1 := hlt (rw, listOf #[] n0) (.head _)
    have h2 := hlt (l, listOf vs.toArray n) (.tail _ (.head _))
    refine turn k t vs' n' ((ns.take i).map symOf) u h tk I oI _ (hp k (List.mem_of_getElem? hk)) ⟨h1, h2⟩ hc (by rw [List.length_map, List.length_take]; omega) (fun y hy => ?_) F₁ N₁
    rw [List.take_add_one, hk]
    simpa using hy
  · rintro ⟨vs', n'⟩ u h tk hc F₁ N₁
    refine done vs' n' u h tk ?_ F₁ N₁
    have e : ns.take vs.length = ns := List.take_of_length_le (by rw [hi.length]; exact Nat.le_refl _)
    rw [e] at hc
    exact hc
end
section
theorem row_does (w : World) (mean : ExcName → Option Value) (mg mb : Str → Option Value) (l : Addr) (n : Nat) (vs : List Value) (ns : List Int) (hi : IntsAre vs ns) (hp : ∀ x ∈ ns, 0 ≤ x) (hlen : ns.length ≤ 12) :
    Does w mean mg mb 164 [.ref l] [(l, listOf vs.toArray n)] 1
      (fun tl r => ∃ l' n' vs', r = .ref l' ∧ (l', listOf vs'.toArray n') ∈ tl ∧ IntsAre vs' (ns.map symOf ++ [0, 49])) := by
  unfold Does
  k_fill
  intro dp un gd cn cs a ccd cl outer A₀ base h₀ L m news s Q E B F X N T hk hex hd hu hret
  have hfull := N
  have hN : News h₀ L s.heap _ := fun p hp => N p (hex p hp)
  clear N
  refine wpAny_call ?_
  k_dflt (refine' enterP (binds := [(Str.ofString "drawn", .ref l)]) ?k1 ?k2 ?k3 hN ?k5 ?kA ?kF ?kK ?k6 ?k7 ?k8 ?k9 ?kB ?_ ?c2 ?c3 ?c4 ?c5; (case kA => exact rfl); (case kF => exact rfl); (case kK => assumption); (case k1 => k_asm); (case k2 => k_asm); (case k3 => k_asm); (case k5 => k_asm); (case k6 => k_is); (case k7 => k_is); (case k8 => ktr_room); (case k9 => first | exact BindsTo.of_eq rfl | exact binds_K (by k_in) rfl (by k_is) rfl rfl rfl); (case c5 => decide); (case kB => exact locs rfl); (case c2 => exact rfl); (case c3 => exact rfl); (case c4 => exact rfl); k_whole; intro g' L' h' tk' hg' FG' F' N' B' X' T' l1; (try dsimp only); (try k_fold))
  (try k_lt l1)
  repeat' (first | (k_unfold; (try dsimp only)) | (k_end; wrow_close) | ((with_reducible show wpAny _ _ (exec (Stmt.For (PySem.Expr.Name _ _) (PySem.Expr.Name _ _) (_ :: _) [] _) _) _ _ _); (with_reducible (k_here; refine Halt.out ?_)); (first | (with_reducible show wpAny _ _ (subscriptTail _ _ _ (Value.ref _)) _ _ _) | (with_reducible show wpAny _ _ (setItem _ (Value.ref _) _) _ _ _) | dsimp only | skip)) | ((with_reducible show wpAny _ _ (binaryOp Operator.Mod (Value.int _ _) (Value.int _ _)) _ _ _); (with_reducible (k_here; with_unfolding_all (refine modR (by with_reducible assumption) (by decide) ?_))); (first | (with_reducible show wpAny _ _ (subscriptTail _ _ _ (Value.ref _)) _ _ _) | (with_reducible show wpAny _ _ (setItem _ (Value.ref _) _) _ _ _) | dsimp only | skip)) | ((with_reducible show wpAny _ _ (call (Value.builtin "list.append") _) _ _ _); (with_reducible (k_here; (with_reducible show wpAny _ _ (call (Value.builtin _) [Value.ref _, _]) _ _ _); k_dflt (refine' append_K ?zqk1 ?zqk2 ?zqk3 ?_ ?zqz; (case zqk1 => k_asm); (case zqk2 => k_asm); (case zqk3 => k_upd); (case zqz => assumption); k_whole); intro h' F' N'; (try k_sweep))); (first | (with_reducible show wpAny _ _ (subscriptTail _ _ _ (Value.ref _)) _ _ _) | (with_reducible show wpAny _ _ (setItem _ (Value.ref _) _) _ _ _) | dsimp only | skip)) | (walk1; (first | (with_reducible show wpAny _ _ (subscriptTail _ _ _ (Value.ref _)) _ _ _) | (with_reducible show wpAny _ _ (setItem _ (Value.ref _) _) _ _ _) | dsimp only | skip)) | (dsimp only; walk1) | (leave1; (try dsimp only)) | fail "no step")
  refine Halt.go ?_
  rename News _ _ _ _ => N2
  rename Fr _ _ _ _ => F2
  with_unfolding_all refine' For_invVF F2 ?k1 ?k2 ?_
  (case k1 => exact rfl)
  (case k2 => exact rfl)
  k_whole
  k_dflt (refine ld F2 (by rfl) ?_)
  with_unfolding_all refine' rowLoop hi hp hlen ?hh F2 N2 ?turn ?done
  (case hh => rfl)
  case turn =>
    clear F2 N2
    intro k t vs' n' ns' u h tk I oI Inv hk0 l1 hv' hl' hInv F2 N2
    have hsz : vs'.toArray.size ≤ sizeLine := by
      rw [List.size_toArray, hv'.length, sizeLine_eq]
      exact Nat.le_trans hl' (by decide)
    have e3 : (k.fdiv 4).fmod 3 = k / 4 % 3 := by rw [fd_nonneg (by decide), Int.fmod_eq_emod_of_nonneg _ (by decide)]
    have e4 : k.fmod 4 = k % 4 := Int.fmod_eq_emod_of_nonneg _ (by decide)
    have h4 : k.fmod 4 = 3 ∨ k.fmod 4 = 0 ∨ k.fmod 4 = 1 ∨ k.fmod 4 = 2 := by omega
    rcases h4 with h4 | h4 | h4 | h4
    · have hs : symOf k = 256 + k / 4 % 3 := by unfold symOf; rw [if_pos (by omega)]
      repeat' (first | (k_unfold; (try dsimp only)) | (k_end; wrow_close) | ((with_reducible show wpAny _ _ (exec (Stmt.For (PySem.Expr.Name _ _) (PySem.Expr.Name _ _) (_ :: _) [] _) _) _ _ _); (with_reducible (k_here; refine Halt.out ?_)); (first | (with_reducible show wpAny _ _ (subscriptTail _ _ _ (Value.ref _)) _ _ _) | (with_reducible show wpAny _ _ (setItem _ (Value.ref _) _) _ _ _) | dsimp only | skip)) | ((with_reducible show wpAny _ _ (binaryOp Operator.Mod (Value.int _ _) (Value.int _ _)) _ _ _); (with_reducible (k_here; with_unfolding_all (refine modR (by with_reducible assumption) (by decide) ?_))); (first | (with_reducible show wpAny _ _ (subscriptTail _ _ _ (Value.ref _)) _ _ _) | (with_reducible show wpAny _ _ (setItem _ (Value.ref _) _) _ _ _) | dsimp only | skip)) | ((with_reducible show wpAny _ _ (call (Value.builtin "list.append") _) _ _ _); (with_reducible (k_here; (with_reducible show wpAny _ _ (call (Value.builtin _) [Value.ref _, _]) _ _ _); k_dflt (refine' append_K ?zqk1 ?zqk2 ?zqk3 ?_ ?zqz; (case zqk1 => k_asm); (case zqk2 => k_asm); (case zqk3 => k_upd); (case zqz => assumption); k_whole); intro h' F' N'; (try k_sweep))); (first | (with_reducible show wpAny _ _ (subscriptTail _ _ _ (Value.ref _)) _ _ _) | (with_reducible show wpAny _ _ (setItem _ (Value.ref _) _) _ _ _) | dsimp only | skip)) | (walk1; (first | (with_reducible show wpAny _ _ (subscriptTail _ _ _ (Value.ref _)) _ _ _) | (with_reducible show wpAny _ _ (setItem _ (Value.ref _) _) _ _ _) | dsimp only | skip)) | (dsimp only; walk1) | (leave1; (try dsimp only)) | fail "no step")
      rename News _ _ _ _ => N3
      rename Fr _ _ _ _ => F3
      simp only [List.push_toArray] at N3
      refine LPost.next (_, _) F3 N3 (fun p hp => hp) ⟨Nat.ne_of_gt l1.1, Nat.ne_of_gt l1.2, trivial⟩ (fun _ hp => nomatch hp) (by kst_same) (hInv _ ?_)
      simp only [hs, e3]
      exact IntsAre.append hv' (.cons _ _ .nil)
    · have hs : symOf k = 49 := by unfold symOf; rw [if_neg (by omega), if_pos (by omega)]
      repeat' (first | (k_unfold; (try dsimp only)) | (k_end; wrow_close) | ((with_reducible show wpAny _ _ (exec (Stmt.For (PySem.Expr.Name _ _) (PySem.Expr.Name _ _) (_ :: _) [] _) _) _ _ _); (with_reducible (k_here; refine Halt.out ?_)); (first | (with_reducible show wpAny _ _ (subscriptTail _ _ _ (Value.ref _)) _ _ _) | (with_reducible show wpAny _ _ (setItem _ (Value.ref _) _) _ _ _) | dsimp only | skip)) | ((with_reducible show wpAny _ _ (binaryOp Operator.Mod (Value.int _ _) (Value.int _ _)) _ _ _); (with_reducible (k_here; with_unfolding_all (refine modR (by with_reducible assumption) (by decide) ?_))); (first | (with_reducible show wpAny _ _ (subscriptTail _ _ _ (Value.ref _)) _ _ _) | (with_reducible show wpAny _ _ (setItem _ (Value.ref _) _) _ _ _) | dsimp only | skip)) | ((with_reducible show wpAny _ _ (call (Value.builtin "list.append") _) _ _ _); (with_reducible (k_here; (with_reducible show wpAny _ _ (call (Value.builtin _) [Value.ref _, _]) _ _ _); k_dflt (refine' append_K ?zqk1 ?zqk2 ?zqk3 ?_ ?zqz; (case zqk1 => k_asm); (case zqk2 => k_asm); (case zqk3 => k_upd); (case zqz => assumption); k_whole); intro h' F' N'; (try k_sweep))); (first | (with_reducible show wpAny _ _ (subscriptTail _ _ _ (Value.ref _)) _ _ _) | (with_reducible show wpAny _ _ (setItem _ (Value.ref _) _) _ _ _) | dsimp only | skip)) | (walk1; (first | (with_reducible show wpAny _ _ (subscriptTail _ _ _ (Value.ref _)) _ _ _) | (with_reducible show wpAny _ _ (setItem _ (Value.ref _) _) _ _ _) | dsimp only | skip)) | (dsimp only; walk1) | (leave1; (try dsimp only)) | fail "no step")
      rename News _ _ _ _ => N3
      rename Fr _ _ _ _ => F3
      simp only [List.push_toArray] at N3
      refine LPost.next (_, _) F3 N3 (fun p hp => hp) ⟨Nat.ne_of_gt l1.1, Nat.ne_of_gt l1.2, trivial⟩ (fun _ hp => nomatch hp) (by kst_same) (hInv _ ?_)
      simp only [hs, e3]
      exact IntsAre.append hv' (.cons _ _ .nil)
    · have hs : symOf k = 32 := by unfold symOf; rw [if_neg (by omega), if_neg (by omega), if_pos (by omega)]
      repeat' (first | (k_unfold; (try dsimp only)) | (k_end; wrow_close) | ((with_reducible show wpAny _ _ (exec (Stmt.For (PySem.Expr.Name _ _) (PySem.Expr.Name _ _) (_ :: _) [] _) _) _ _ _); (with_reducible (k_here; refine Halt.out ?_)); (first | (with_reducible show wpAny _ _ (subscriptTail _ _ _ (Value.ref _)) _ _ _) | (with_reducible show wpAny _ _ (setItem _ (Value.ref _) _) _ _ _) | dsimp only | skip)) | ((with_reducible show wpAny _ _ (binaryOp Operator.Mod (Value.int _ _) (Value.int _ _)) _ _ _); (with_reducible (k_here; with_unfolding_all (refine modR (by with_reducible assumption) (by decide) ?_))); (first | (with_reducible show wpAny _ _ (subscriptTail _ _ _ (Value.ref _)) _ _ _) | (with_reducible show wpAny _ _ (setItem _ (Value.ref _) _) _ _ _) | dsimp only | skip)) | ((with_reducible show wpAny _ _ (call (Value.builtin "list.append") _) _ _ _); (with_reducible (k_here; (with_reducible show wpAny _ _ (call (Value.builtin _) [Value.ref _, _]) _ _ _); k_dflt (refine' append_K ?zqk1 ?zqk2 ?zqk3 ?_ ?zqz; (case zqk1 => k_asm); (case zqk2 => k_asm); (case zqk3 => k_upd); (case zqz => assumption); k_whole); intro h' F' N'; (try k_sweep))); (first | (with_reducible show wpAny _ _ (subscriptTail _ _ _ (Value.ref _)) _ _ _) | (with_reducible show wpAny _ _ (setItem _ (Value.ref _) _) _ _ _) | dsimp only | skip)) | (walk1; (first | (with_reducible show wpAny _ _ (subscriptTail _ _ _ (Value.ref _)) _ _ _) | (with_reducible show wpAny _ _ (setItem _ (Value.ref _) _) _ _ _) | dsimp only | skip)) | (dsimp only; walk1) | (leave1; (try dsimp only)) | fail "no step")
      rename News _ _ _ _ => N3
      rename Fr _ _ _ _ => F3
      simp only [List.push_toArray] at N3
      refine LPost.next (_, _) F3 N3 (fun p hp => hp) ⟨Nat.ne_of_gt l1.1, Nat.ne_of_gt l1.2, trivial⟩ (fun _ hp => nomatch hp) (by kst_same) (hInv _ ?_)
      simp only [hs, e3]
      exact IntsAre.append hv' (.cons _ _ .nil)
    · have hs : symOf k = 31 := by unfold symOf; rw [if_neg (by omega), if_neg (by omega), if_neg (by omega)]
      repeat' (first | (k_unfold; (try dsimp only)) | (k_end; wrow_close) | ((with_reducible show wpAny _ _ (exec (Stmt.For (PySem.Expr.Name _ _) (PySem.Expr.Name _ _) (_ :: _) [] _) _) _ _ _); (with_reducible (k_here; refine Halt.out ?_)); (first | (with_reducible show wpAny _ _ (subscriptTail _ _ _ (Value.ref _)) _ _ _) | (with_reducible show wpAny _ _ (setItem _ (Value.ref _) _) _ _ _) | dsimp only | skip)) | ((with_reducible show wpAny _ _ (binaryOp Operator.Mod (Value.int _ _) (Value.int _ _)) _ _ _); (with_reducible (k_here; with_unfolding_all (refine modR (by with_reducible assumption) (by decide) ?_))); (first | (with_reducible show wpAny _ _ (subscriptTail _ _ _ (Value.ref _)) _ _ _) | (with_reducible show wpAny _ _ (setItem _ (Value.ref _) _) _ _ _) | dsimp only | skip)) | ((with_reducible show wpAny _ _ (call (Value.builtin "list.append") _) _ _ _); (with_reducible (k_here; (with_reducible show wpAny _ _ (call (Value.builtin _) [Value.ref _, _]) _ _ _); k_dflt (refine' append_K ?zqk1 ?zqk2 ?zqk3 ?_ ?zqz; (case zqk1 => k_asm); (case zqk2 => k_asm); (case zqk3 => k_upd); (case zqz => assumption); k_whole); intro h' F' N'; (try k_sweep))); (first | (with_reducible show wpAny _ _ (subscriptTail _ _ _ (Value.ref _)) _ _ _) | (with_reducible show wpAny _ _ (setItem _ (Value.ref _) _) _ _ _) | dsimp only | skip)) | (walk1; (first | (with_reducible show wpAny _ _ (subscriptTail _ _ _ (Value.ref _)) _ _ _) | (with_reducible show wpAny _ _ (setItem _ (Value.ref _) _) _ _ _) | dsimp only | skip)) | (dsimp only; walk1) | (leave1; (try dsimp only)) | fail "no step")
      rename News _ _ _ _ => N3
      rename Fr _ _ _ _ => F3
      simp only [List.push_toArray] at N3
      refine LPost.next (_, _) F3 N3 (fun p hp => hp) ⟨Nat.ne_of_gt l1.1, Nat.ne_of_gt l1.2, trivial⟩ (fun _ hp => nomatch hp) (by kst_same) (hInv _ ?_)
      simp only [hs, e3]
      exact IntsAre.append hv' (.cons _ _ .nil)
  case done =>
    clear F2 N2
    intro vs' n' u h tk hv' F2 N2
    repeat' (first | (k_unfold; (try dsimp only)) | (k_end; wrow_close) | ((with_reducible show wpAny _ _ (exec (Stmt.For (PySem.Expr.Name _ _) (PySem.Expr.Name _ _) (_ :: _) [] _) _) _ _ _); (with_reducible (k_here; refine Halt.out ?_)); (first | (with_reducible show wpAny _ _ (subscriptTail _ _ _ (Value.ref _)) _ _ _) | (with_reducible show wpAny _ _ (setItem _ (Value.ref _) _) _ _ _) | dsimp only | skip)) | ((with_reducible show wpAny _ _ (binaryOp Operator.Mod (Value.int _ _) (Value.int _ _)) _ _ _); (with_reducible (k_here; with_unfolding_all (refine modR (by with_reducible assumption) (by decide) ?_))); (first | (with_reducible show wpAny _ _ (subscriptTail _ _ _ (Value.ref _)) _ _ _) | (with_reducible show wpAny _ _ (setItem _ (Value.ref _) _) _ _ _) | dsimp only | skip)) | ((with_reducible show wpAny _ _ (call (Value.builtin "list.append") _) _ _ _); (with_reducible (k_here; (with_reducible show wpAny _ _ (call (Value.builtin _) [Value.ref _, _]) _ _ _); k_dflt (refine' append_K ?zqk1 ?zqk2 ?zqk3 ?_ ?zqz; (case zqk1 => k_asm); (case zqk2 => k_asm); (case zqk3 => k_upd); (case zqz => assumption); k_whole); intro h' F' N'; (try k_sweep))); (first | (with_reducible show wpAny _ _ (subscriptTail _ _ _ (Value.ref _)) _ _ _) | (with_reducible show wpAny _ _ (setItem _ (Value.ref _) _) _ _ _) | dsimp only | skip)) | (walk1; (first | (with_reducible show wpAny _ _ (subscriptTail _ _ _ (Value.ref _)) _ _ _) | (with_reducible show wpAny _ _ (setItem _ (Value.ref _) _) _ _ _) | dsimp only | skip)) | (dsimp only; walk1) | (leave1; (try dsimp only)) | fail "no step")
    (refine' hret _ [(_, _)] _ _ ?e0 (newsBack hfull hg' (by assumption) (by assumption) ?e1 hex ?e2) (apartBack hfull hg' (by assumption) ?e3 ?e4) ⟨_, _, _, rfl, List.Mem.head _, by assumption⟩; (case e0 => k_asm); (case e1 => (repeat' (first | exact List.forall_mem_nil _ | refine List.forall_mem_cons.mpr ⟨by k_mem, ?_⟩))); (case e2 => (repeat' (first | exact List.forall_mem_nil _ | refine List.forall_mem_cons.mpr ⟨by k_mem, ?_⟩))); (case e3 => (repeat' (first | exact List.forall_mem_nil _ | refine List.forall_mem_cons.mpr ⟨by k_mem, ?_⟩))); (case e4 => (repeat' (first | exact List.forall_mem_nil _ | refine List.forall_mem_cons.mpr ⟨by first | exact neSub (by assumption) (by repeat' (first | exact List.forall_mem_nil _ | refine List.forall_mem_cons.mpr ⟨by k_mem, ?_⟩)) | k_all, ?_⟩))))
end
end Mine
end

section
open PySem PySem.W PyProof.Rows
set_option Elab.async false
set_option maxRecDepth 100000
set_option maxHeartbeats 2000000
namespace Mine
section
variable {prog : Program} {w : World} {A : Around} {E : Value → Shared → Prop} {s : Shared} {env : Env} {h₀ : Heap} {x : Str} {body : List Stmt} {Q : Flow → Shared → Prop}
theorem leftLoop {l : Addr} {vs : List Value} {n : Nat} {t0 : Tok} {ns : List Int} {m₀ : Str → Option Value} (hi : IntsAre vs ns) (hp : ∀ x ∈ ns, 0 ≤ x) (hlen : ns.length ≤ 12) (hh : A.handled = none)
    (F : Fr h₀ env.locals s.heap m₀) (N : News h₀ env.locals s.heap [(l, listOf vs.toArray n)]) (h0 : m₀ (Str.ofString "text") = some (.str (Str.ofString "") t0))
    (turn : ∀ (k : Int) (t : Tok) (v : List Nat) (tv : Tok) (u : Str → Option Value) h tk I oI (Inv : List Nat × Tok → Prop), 0 ≤ k → @LT.lt Nat _ l I → Good v 12 →
      (∀ y : List Nat × Tok, y.1 = stepT v k → Inv y) →
      Fr h₀ env.locals h (fun y => if y = x then some (.int k t) else if y = Str.ofString "text" then some (.str ⟨v.toArray⟩ tv) else m₀ y) → News h₀ env.locals h [(I, oI), (l, listOf vs.toArray n)] →
      wpAny (model prog w) A (execs body env) (LPost (fun _ => [(l, listOf vs.toArray n)]) (fun c => [(Str.ofString "text", .str ⟨c.1.toArray⟩ c.2)]) [] Inv h₀ env.locals x m₀ I oI { s with heap := h, toks := tk } Q) E { s with heap := h, toks := tk })
    (done : ∀ (tv : Tok) (u : Str → Option Value) h tk,
      Fr h₀ env.locals h (fun y => if y = x then u y else if y = Str.ofString "text" then some (.str ⟨(leftN ns).toArray⟩ tv) else m₀ y) → News h₀ env.locals h [(l, listOf vs.toArray n)] → Q .next { s with heap := h, toks := tk }) :
    wpAny (model prog w) A (pyIter (.ref l)) (fun it s₂ => LoopAtV prog w A h₀ env x body Q E it s₂) E s := by
  refine loopList (l := l) (vs := vs) (nn := n) (fun _ => [(l, listOf vs.toArray n)]) (fun c : List Nat × Tok => [(Str.ofString "text", .str ⟨c.1.toArray⟩ c.2)]) [] (fun i y => y.1 = leftN (ns.take i)) ([], t0) hh (fun _ => .head _) F N
    (fun p hp => by rw [List.mem_singleton.mp hp]; exact h0) rfl ?_ ?_
  · rintro i ⟨v, tv⟩ w' u h tk I oI hlt hi' hv hc hne F₁ N₁
    obtain ⟨k, t, rfl, hk⟩ := IntsAre.at hi i w' hv
    have h1 := hlt (l, listOf vs.toArray n) (.head _)
    have hg := good_left (ns.take i)
    have hv' : v = leftN (ns.take i) := hc
    refine turn k t v tv u h tk I oI _ (hp k (List.mem_of_getElem? hk)) h1 (hv' ▸ ⟨hg.dbl, hg.sg, by have := hg.len; simp at this; omega⟩) (fun y hy => ?_) F₁ N₁
    show y.1 = leftN (ns.take (i + 1))
    rw [List.take_add_one, hk, hy, hv']
    simp [leftN, List.foldl_append]
  · rintro ⟨v, tv⟩ u h tk hc F₁ N₁
    have e : ns.take vs.length = ns := List.take_of_length_le (by rw [hi.length]; exact Nat.le_refl _)
    have hv' : v = leftN ns := by have : v = leftN (ns.take vs.length) := hc; rwa [e] at this
    subst hv'
    exact done tv u h tk F₁ N₁
end
section
theorem left_does (w : World) (mean : ExcName → Option Value) (mg mb : Str → Option Value) (l : Addr) (n : Nat) (vs : List Value) (ns : List Int) (hi : IntsAre vs ns) (hp : ∀ x ∈ ns, 0 ≤ x) (hlen : ns.length ≤ 12) :
    Does w mean mg mb 171 [.ref l] [(l, listOf vs.toArray n)] 1
      (fun tl r => ∃ t, r = .str ⟨(leftN ns).toArray⟩ t) := by
  unfold Does
  k_fill
  intro dp un gd cn cs a ccd cl outer A₀ base h₀ L m news s Q E B F X N T hk hex hd hu hret
  have hfull := N
  have hN : News h₀ L s.heap _ := fun p hp => N p (hex p hp)
  clear N
  refine wpAny_call ?_
  k_dflt (refine' enterP (binds := [(Str.ofString "drawn", .ref l)]) ?k1 ?k2 ?k3 hN ?k5 ?kA ?kF ?kK ?k6 ?k7 ?k8 ?k9 ?kB ?_ ?c2 ?c3 ?c4 ?c5; (case kA => exact rfl); (case kF => exact rfl); (case kK => assumption); (case k1 => k_asm); (case k2 => k_asm); (case k3 => k_asm); (case k5 => k_asm); (case k6 => k_is); (case k7 => k_is); (case k8 => ktr_room); (case k9 => first | exact BindsTo.of_eq rfl | exact binds_K (by k_in) rfl (by k_is) rfl rfl rfl); (case c5 => decide); (case kB => exact locs rfl); (case c2 => exact rfl); (case c3 => exact rfl); (case c4 => exact rfl); k_whole; intro g' L' h' tk' hg' FG' F' N' B' X' T' l1; (try dsimp only); (try k_fold))
  (try k_lt l1)
  repeat' (first | (k_unfold; (try dsimp only)) | (k_end; wrow_close) | ((with_reducible show wpAny _ _ (exec (Stmt.For (PySem.Expr.Name _ _) (PySem.Expr.Name _ _) (_ :: _) [] _) _) _ _ _); (with_reducible (k_here; refine Halt.out ?_)); (first | (with_reducible show wpAny _ _ (subscriptTail _ _ _ (Value.ref _)) _ _ _) | (with_reducible show wpAny _ _ (setItem _ (Value.ref _) _) _ _ _) | dsimp only | skip)) | ((with_reducible show wpAny _ _ (binaryOp Operator.Add (Value.str _ _) (Value.str _ _)) _ _ _); ((k_here; with_unfolding_all (first | refine addW (k := 64) (by dsimp only; omega) rfl (by with_reducible assumption) ?_ | refine addW (k := 94) (by dsimp only; omega) rfl (by with_reducible assumption) ?_ | refine addW (k := 126) (by dsimp only; omega) rfl (by with_reducible assumption) ?_); intro t9 k9 g9)); (first | (with_reducible show wpAny _ _ (subscriptTail _ _ _ (Value.ref _)) _ _ _) | (with_reducible show wpAny _ _ (setItem _ (Value.ref _) _) _ _ _) | dsimp only | skip)) | ((with_reducible show wpAny _ _ (binaryOp Operator.Mod (Value.int _ _) (Value.int _ _)) _ _ _); (with_reducible (k_here; with_unfolding_all (refine modR (by with_reducible assumption) (by decide) ?_))); (first | (with_reducible show wpAny _ _ (subscriptTail _ _ _ (Value.ref _)) _ _ _) | (with_reducible show wpAny _ _ (setItem _ (Value.ref _) _) _ _ _) | dsimp only | skip)) | ((with_reducible show wpAny _ _ (call (Value.builtin "str.replace") _) _ _ _); ((k_here; with_unfolding_all (refine' repW ?zqh1 ?zqh2 ?zqh3 ?zqh4 ?zqh5 ?zqh6 ?zqh7 ?zqh8 ?_; (case zqh1 => (dsimp only; omega)); (case zqh2 => with_reducible assumption); (case zqh3 => with_reducible assumption); (case zqh4 => omega); (case zqh5 => omega); (case zqh6 => omega); (case zqh7 => decide +kernel); (case zqh8 => decide +kernel)); intro t9 k9 g9)); (first | (with_reducible show wpAny _ _ (subscriptTail _ _ _ (Value.ref _)) _ _ _) | (with_reducible show wpAny _ _ (setItem _ (Value.ref _) _) _ _ _) | dsimp only | skip)) | ((with_reducible show wpAny _ _ (call (Value.builtin "len") _) _ _ _); (with_reducible (k_here; with_unfolding_all (refine lenW (by with_reducible assumption) ?_))); (first | (with_reducible show wpAny _ _ (subscriptTail _ _ _ (Value.ref _)) _ _ _) | (with_reducible show wpAny _ _ (setItem _ (Value.ref _) _) _ _ _) | dsimp only | skip)) | (walk1; (first | (with_reducible show wpAny _ _ (subscriptTail _ _ _ (Value.ref _)) _ _ _) | (with_reducible show wpAny _ _ (setItem _ (Value.ref _) _) _ _ _) | dsimp only | skip)) | (dsimp only; walk1) | (leave1; (try dsimp only)) | fail "no step")
  refine Halt.go ?_
  rename News _ _ _ _ => N2
  rename Fr _ _ _ _ => F2
  with_unfolding_all refine' For_invVF F2 ?k1 ?k2 ?_
  (case k1 => exact rfl)
  (case k2 => exact rfl)
  k_whole
  k_dflt (refine ld F2 (by rfl) ?_)
  with_unfolding_all refine' leftLoop hi hp hlen ?hh F2 N2 ?h0 ?turn ?done
  (case hh => rfl)
  case h0 => rfl
  case turn =>
    clear F2 N2
    intro k t v tv u h tk I oI Inv hk0 l1 hg hInv F2 N2
    have hv20 : v.length ≤ 20 := Nat.le_trans hg.len (by decide)
    have e3 : (k.fdiv 4).fmod 3 = k / 4 % 3 := by rw [fd_nonneg (by decide), Int.fmod_eq_emod_of_nonneg _ (by decide)]
    have e4 : k.fmod 4 = k % 4 := Int.fmod_eq_emod_of_nonneg _ (by decide)
    have h4 : k.fmod 4 = 3 ∨ k.fmod 4 = 0 ∨ k.fmod 4 = 1 ∨ k.fmod 4 = 2 := by omega
    rcases h4 with h4 | h4 | h4 | h4
    · repeat' (first | (k_unfold; (try dsimp only)) | (k_end; wrow_close) | ((with_reducible show wpAny _ _ (exec (Stmt.For (PySem.Expr.Name _ _) (PySem.Expr.Name _ _) (_ :: _) [] _) _) _ _ _); (with_reducible (k_here; refine Halt.out ?_)); (first | (with_reducible show wpAny _ _ (subscriptTail _ _ _ (Value.ref _)) _ _ _) | (with_reducible show wpAny _ _ (setItem _ (Value.ref _) _) _ _ _) | dsimp only | skip)) | ((with_reducible show wpAny _ _ (binaryOp Operator.Add (Value.str _ _) (Value.str _ _)) _ _ _); ((k_here; with_unfolding_all (first | refine addW (k := 64) (by dsimp only; omega) rfl (by with_reducible assumption) ?_ | refine addW (k := 94) (by dsimp only; omega) rfl (by with_reducible assumption) ?_ | refine addW (k := 126) (by dsimp only; omega) rfl (by with_reducible assumption) ?_); intro t9 k9 g9)); (first | (with_reducible show wpAny _ _ (subscriptTail _ _ _ (Value.ref _)) _ _ _) | (with_reducible show wpAny _ _ (setItem _ (Value.ref _) _) _ _ _) | dsimp only | skip)) | ((with_reducible show wpAny _ _ (binaryOp Operator.Mod (Value.int _ _) (Value.int _ _)) _ _ _); (with_reducible (k_here; with_unfolding_all (refine modR (by with_reducible assumption) (by decide) ?_))); (first | (with_reducible show wpAny _ _ (subscriptTail _ _ _ (Value.ref _)) _ _ _) | (with_reducible show wpAny _ _ (setItem _ (Value.ref _) _) _ _ _) | dsimp only | skip)) | ((with_reducible show wpAny _ _ (call (Value.builtin "str.replace") _) _ _ _); ((k_here; with_unfolding_all (refine' repW ?zqh1 ?zqh2 ?zqh3 ?zqh4 ?zqh5 ?zqh6 ?zqh7 ?zqh8 ?_; (case zqh1 => (dsimp only; omega)); (case zqh2 => with_reducible assumption); (case zqh3 => with_reducible assumption); (case zqh4 => omega); (case zqh5 => omega); (case zqh6 => omega); (case zqh7 => decide +kernel); (case zqh8 => decide +kernel)); intro t9 k9 g9)); (first | (with_reducible show wpAny _ _ (subscriptTail _ _ _ (Value.ref _)) _ _ _) | (with_reducible show wpAny _ _ (setItem _ (Value.ref _) _) _ _ _) | dsimp only | skip)) | ((with_reducible show wpAny _ _ (call (Value.builtin "len") _) _ _ _); (with_reducible (k_here; with_unfolding_all (refine lenW (by with_reducible assumption) ?_))); (first | (with_reducible show wpAny _ _ (subscriptTail _ _ _ (Value.ref _)) _ _ _) | (with_reducible show wpAny _ _ (setItem _ (Value.ref _) _) _ _ _) | dsimp only | skip)) | (walk1; (first | (with_reducible show wpAny _ _ (subscriptTail _ _ _ (Value.ref _)) _ _ _) | (with_reducible show wpAny _ _ (setItem _ (Value.ref _) _) _ _ _) | dsimp only | skip)) | (dsimp only; walk1) | (leave1; (try dsimp only)) | fail "no step")
      rename News _ _ _ _ => N3
      rename Fr _ _ _ _ => F3
      rw [sliceT hk0 (by omega)] at F3
      refine LPost.next (_, _) F3 N3 (fun p hp => hp) ⟨Nat.ne_of_gt l1, trivial⟩ (by kst_all) (by kst_same) (hInv _ rfl)
    · obtain ⟨a1, a2, q1, q2, q3, b0, b1, b2⟩ := R3_steps (k := 64) hg (.inl rfl)
      have hc : pushS v 64 = stepT v k := stepT_push (by omega) (by rw [show k % 4 = 0 by omega]; rfl)
      repeat' (first | (k_unfold; (try dsimp only)) | (k_end; wrow_close) | ((with_reducible show wpAny _ _ (exec (Stmt.For (PySem.Expr.Name _ _) (PySem.Expr.Name _ _) (_ :: _) [] _) _) _ _ _); (with_reducible (k_here; refine Halt.out ?_)); (first | (with_reducible show wpAny _ _ (subscriptTail _ _ _ (Value.ref _)) _ _ _) | (with_reducible show wpAny _ _ (setItem _ (Value.ref _) _) _ _ _) | dsimp only | skip)) | ((with_reducible show wpAny _ _ (binaryOp Operator.Add (Value.str _ _) (Value.str _ _)) _ _ _); ((k_here; with_unfolding_all (first | refine addW (k := 64) (by dsimp only; omega) rfl (by with_reducible assumption) ?_ | refine addW (k := 94) (by dsimp only; omega) rfl (by with_reducible assumption) ?_ | refine addW (k := 126) (by dsimp only; omega) rfl (by with_reducible assumption) ?_); intro t9 k9 g9)); (first | (with_reducible show wpAny _ _ (subscriptTail _ _ _ (Value.ref _)) _ _ _) | (with_reducible show wpAny _ _ (setItem _ (Value.ref _) _) _ _ _) | dsimp only | skip)) | ((with_reducible show wpAny _ _ (binaryOp Operator.Mod (Value.int _ _) (Value.int _ _)) _ _ _); (with_reducible (k_here; with_unfolding_all (refine modR (by with_reducible assumption) (by decide) ?_))); (first | (with_reducible show wpAny _ _ (subscriptTail _ _ _ (Value.ref _)) _ _ _) | (with_reducible show wpAny _ _ (setItem _ (Value.ref _) _) _ _ _) | dsimp only | skip)) | ((with_reducible show wpAny _ _ (call (Value.builtin "str.replace") _) _ _ _); ((k_here; with_unfolding_all (refine' repW ?zqh1 ?zqh2 ?zqh3 ?zqh4 ?zqh5 ?zqh6 ?zqh7 ?zqh8 ?_; (case zqh1 => (dsimp only; omega)); (case zqh2 => with_reducible assumption); (case zqh3 => with_reducible assumption); (case zqh4 => omega); (case zqh5 => omega); (case zqh6 => omega); (case zqh7 => decide +kernel); (case zqh8 => decide +kernel)); intro t9 k9 g9)); (first | (with_reducible show wpAny _ _ (subscriptTail _ _ _ (Value.ref _)) _ _ _) | (with_reducible show wpAny _ _ (setItem _ (Value.ref _) _) _ _ _) | dsimp only | skip)) | ((with_reducible show wpAny _ _ (call (Value.builtin "len") _) _ _ _); (with_reducible (k_here; with_unfolding_all (refine lenW (by with_reducible assumption) ?_))); (first | (with_reducible show wpAny _ _ (subscriptTail _ _ _ (Value.ref _)) _ _ _) | (with_reducible show wpAny _ _ (setItem _ (Value.ref _) _) _ _ _) | dsimp only | skip)) | (walk1; (first | (with_reducible show wpAny _ _ (subscriptTail _ _ _ (Value.ref _)) _ _ _) | (with_reducible show wpAny _ _ (setItem _ (Value.ref _) _) _ _ _) | dsimp only | skip)) | (dsimp only; walk1) | (leave1; (try dsimp only)) | fail "no step")
      rename News _ _ _ _ => N3
      rename Fr _ _ _ _ => F3
      rw [hc] at F3
      refine LPost.next (_, _) F3 N3 (fun p hp => hp) ⟨Nat.ne_of_gt l1, trivial⟩ (by kst_all) (by kst_same) (hInv _ rfl)
    · obtain ⟨a1, a2, q1, q2, q3, b0, b1, b2⟩ := R3_steps (k := 94) hg (.inr (.inl rfl))
      have hc : pushS v 94 = stepT v k := stepT_push (by omega) (by rw [show k % 4 = 1 by omega]; rfl)
      repeat' (first | (k_unfold; (try dsimp only)) | (k_end; wrow_close) | ((with_reducible show wpAny _ _ (exec (Stmt.For (PySem.Expr.Name _ _) (PySem.Expr.Name _ _) (_ :: _) [] _) _) _ _ _); (with_reducible (k_here; refine Halt.out ?_)); (first | (with_reducible show wpAny _ _ (subscriptTail _ _ _ (Value.ref _)) _ _ _) | (with_reducible show wpAny _ _ (setItem _ (Value.ref _) _) _ _ _) | dsimp only | skip)) | ((with_reducible show wpAny _ _ (binaryOp Operator.Add (Value.str _ _) (Value.str _ _)) _ _ _); ((k_here; with_unfolding_all (first | refine addW (k := 64) (by dsimp only; omega) rfl (by with_reducible assumption) ?_ | refine addW (k := 94) (by dsimp only; omega) rfl (by with_reducible assumption) ?_ | refine addW (k := 126) (by dsimp only; omega) rfl (by with_reducible assumption) ?_); intro t9 k9 g9)); (first | (with_reducible show wpAny _ _ (subscriptTail _ _ _ (Value.ref _)) _ _ _) | (with_reducible show wpAny _ _ (setItem _ (Value.ref _) _) _ _ _) | dsimp only | skip)) | ((with_reducible show wpAny _ _ (binaryOp Operator.Mod (Value.int _ _) (Value.int _ _)) _ _ _); (with_reducible (k_here; with_unfolding_all (refine modR (by with_reducible assumption) (by decide) ?_))); (first | (with_reducible show wpAny _ _ (subscriptTail _ _ _ (Value.ref _)) _ _ _) | (with_reducible show wpAny _ _ (setItem _ (Value.ref _) _) _ _ _) | dsimp only | skip)) | ((with_reducible show wpAny _ _ (call (Value.builtin "str.replace") _) _ _ _); ((k_here; with_unfolding_all (refine' repW ?zqh1 ?zqh2 ?zqh3 ?zqh4 ?zqh5 ?zqh6 ?zqh7 ?zqh8 ?_; (case zqh1 => (dsimp only; omega)); (case zqh2 => with_reducible assumption); (case zqh3 => with_reducible assumption); (case zqh4 => omega); (case zqh5 => omega); (case zqh6 => omega); (case zqh7 => decide +kernel); (case zqh8 => decide +kernel)); intro t9 k9 g9)); (first | (with_reducible show wpAny _ _ (subscriptTail _ _ _ (Value.ref _)) _ _ _) | (with_reducible show wpAny _ _ (setItem _ (Value.ref _) _) _ _ _) | dsimp only | skip)) | ((with_reducible show wpAny _ _ (call (Value.builtin "len") _) _ _ _); (with_reducible (k_here; with_unfolding_all (refine lenW (by with_reducible assumption) ?_))); (first | (with_reducible show wpAny _ _ (subscriptTail _ _ _ (Value.ref _)) _ _ _) | (with_reducible show wpAny _ _ (setItem _ (Value.ref _) _) _ _ _) | dsimp only | skip)) | (walk1; (first | (with_reducible show wpAny _ _ (subscriptTail _ _ _ (Value.ref _)) _ _ _) | (with_reducible show wpAny _ _ (setItem _ (Value.ref _) _) _ _ _) | dsimp only | skip)) | (dsimp only; walk1) | (leave1; (try dsimp only)) | fail "no step")
      rename News _ _ _ _ => N3
      rename Fr _ _ _ _ => F3
      rw [hc] at F3
      refine LPost.next (_, _) F3 N3 (fun p hp => hp) ⟨Nat.ne_of_gt l1, trivial⟩ (by kst_all) (by kst_same) (hInv _ rfl)
    · obtain ⟨a1, a2, q1, q2, q3, b0, b1, b2⟩ := R3_steps (k := 126) hg (.inr (.inr rfl))
      have hc : pushS v 126 = stepT v k := stepT_push (by omega) (by rw [show k % 4 = 2 by omega]; rfl)
      repeat' (first | (k_unfold; (try dsimp only)) | (k_end; wrow_close) | ((with_reducible show wpAny _ _ (exec (Stmt.For (PySem.Expr.Name _ _) (PySem.Expr.Name _ _) (_ :: _) [] _) _) _ _ _); (with_reducible (k_here; refine Halt.out ?_)); (first | (with_reducible show wpAny _ _ (subscriptTail _ _ _ (Value.ref _)) _ _ _) | (with_reducible show wpAny _ _ (setItem _ (Value.ref _) _) _ _ _) | dsimp only | skip)) | ((with_reducible show wpAny _ _ (binaryOp Operator.Add (Value.str _ _) (Value.str _ _)) _ _ _); ((k_here; with_unfolding_all (first | refine addW (k := 64) (by dsimp only; omega) rfl (by with_reducible assumption) ?_ | refine addW (k := 94) (by dsimp only; omega) rfl (by with_reducible assumption) ?_ | refine addW (k := 126) (by dsimp only; omega) rfl (by with_reducible assumption) ?_); intro t9 k9 g9)); (first | (with_reducible show wpAny _ _ (subscriptTail _ _ _ (Value.ref _)) _ _ _) | (with_reducible show wpAny _ _ (setItem _ (Value.ref _) _) _ _ _) | dsimp only | skip)) | ((with_reducible show wpAny _ _ (binaryOp Operator.Mod (Value.int _ _) (Value.int _ _)) _ _ _); (with_reducible (k_here; with_unfolding_all (refine modR (by with_reducible assumption) (by decide) ?_))); (first | (with_reducible show wpAny _ _ (subscriptTail _ _ _ (Value.ref _)) _ _ _) | (with_reducible show wpAny _ _ (setItem _ (Value.ref _) _) _ _ _) | dsimp only | skip)) | ((with_reducible show wpAny _ _ (call (Value.builtin "str.replace") _) _ _ _); ((k_here; with_unfolding_all (refine' repW ?zqh1 ?zqh2 ?zqh3 ?zqh4 ?zqh5 ?zqh6 ?zqh7 ?zqh8 ?_; (case zqh1 => (dsimp only; omega)); (case zqh2 => with_reducible assumption); (case zqh3 => with_reducible assumption); (case zqh4 => omega); (case zqh5 => omega); (case zqh6 => omega); (case zqh7 => decide +kernel); (case zqh8 => decide +kernel)); intro t9 k9 g9)); (first | (with_reducible show wpAny _ _ (subscriptTail _ _ _ (Value.ref _)) _ _ _) | (with_reducible show wpAny _ _ (setItem _ (Value.ref _) _) _ _ _) | dsimp only | skip)) | ((with_reducible show wpAny _ _ (call (Value.builtin "len") _) _ _ _); (with_reducible (k_here; with_unfolding_all (refine lenW (by with_reducible assumption) ?_))); (first | (with_reducible show wpAny _ _ (subscriptTail _ _ _ (Value.ref _)) _ _ _) | (with_reducible show wpAny _ _ (setItem _ (Value.ref _) _) _ _ _) | dsimp only | skip)) | (walk1; (first | (with_reducible show wpAny _ _ (subscriptTail _ _ _ (Value.ref _)) _ _ _) | (with_reducible show wpAny _ _ (setItem _ (Value.ref _) _) _ _ _) | dsimp only | skip)) | (dsimp only; walk1) | (leave1; (try dsimp only)) | fail "no step")
      rename News _ _ _ _ => N3
      rename Fr _ _ _ _ => F3
      rw [hc] at F3
      refine LPost.next (_, _) F3 N3 (fun p hp => hp) ⟨Nat.ne_of_gt l1, trivial⟩ (by kst_all) (by kst_same) (hInv _ rfl)
  case done =>
    clear F2 N2
    intro tv u h tk F2 N2
    repeat' (first | (k_unfold; (try dsimp only)) | (k_end; wrow_close) | ((with_reducible show wpAny _ _ (exec (Stmt.For (PySem.Expr.Name _ _) (PySem.Expr.Name _ _) (_ :: _) [] _) _) _ _ _); (with_reducible (k_here; refine Halt.out ?_)); (first | (with_reducible show wpAny _ _ (subscriptTail _ _ _ (Value.ref _)) _ _ _) | (with_reducible show wpAny _ _ (setItem _ (Value.ref _) _) _ _ _) | dsimp only | skip)) | ((with_reducible show wpAny _ _ (binaryOp Operator.Add (Value.str _ _) (Value.str _ _)) _ _ _); ((k_here; with_unfolding_all (first | refine addW (k := 64) (by dsimp only; omega) rfl (by with_reducible assumption) ?_ | refine addW (k := 94) (by dsimp only; omega) rfl (by with_reducible assumption) ?_ | refine addW (k := 126) (by dsimp only; omega) rfl (by with_reducible assumption) ?_); intro t9 k9 g9)); (first | (with_reducible show wpAny _ _ (subscriptTail _ _ _ (Value.ref _)) _ _ _) | (with_reducible show wpAny _ _ (setItem _ (Value.ref _) _) _ _ _) | dsimp only | skip)) | ((with_reducible show wpAny _ _ (binaryOp Operator.Mod (Value.int _ _) (Value.int _ _)) _ _ _); (with_reducible (k_here; with_unfolding_all (refine modR (by with_reducible assumption) (by decide) ?_))); (first | (with_reducible show wpAny _ _ (subscriptTail _ _ _ (Value.ref _)) _ _ _) | (with_reducible show wpAny _ _ (setItem _ (Value.ref _) _) _ _ _) | dsimp only | skip)) | ((with_reducible show wpAny _ _ (call (Value.builtin "str.replace") _) _ _ _); ((k_here; with_unfolding_all (refine' repW ?zqh1 ?zqh2 ?zqh3 ?zqh4 ?zqh5 ?zqh6 ?zqh7 ?zqh8 ?_; (case zqh1 => (dsimp only; omega)); (case zqh2 => with_reducible assumption); (case zqh3 => with_reducible assumption); (case zqh4 => omega); (case zqh5 => omega); (case zqh6 => omega); (case zqh7 => decide +kernel); (case zqh8 => decide +kernel)); intro t9 k9 g9)); (first | (with_reducible show wpAny _ _ (subscriptTail _ _ _ (Value.ref _)) _ _ _) | (with_reducible show wpAny _ _ (setItem _ (Value.ref _) _) _ _ _) | dsimp only | skip)) | ((with_reducible show wpAny _ _ (call (Value.builtin "len") _) _ _ _); (with_reducible (k_here; with_unfolding_all (refine lenW (by with_reducible assumption) ?_))); (first | (with_reducible show wpAny _ _ (subscriptTail _ _ _ (Value.ref _)) _ _ _) | (with_reducible show wpAny _ _ (setItem _ (Value.ref _) _) _ _ _) | dsimp only | skip)) | (walk1; (first | (with_reducible show wpAny _ _ (subscriptTail _ _ _ (Value.ref _)) _ _ _) | (with_reducible show wpAny _ _ (setItem _ (Value.ref _) _) _ _ _) | dsimp only | skip)) | (dsimp only; walk1) | (leave1; (try dsimp only)) | fail "no step")
    (refine' hret _ [] _ _ ?e0 (newsBack hfull hg' (by assumption) (by assumption) ?e1 hex ?e2) (apartBack hfull hg' (by assumption) ?e3 ?e4) ⟨_, rfl⟩; (case e0 => k_asm); (case e1 => (repeat' (first | exact List.forall_mem_nil _ | refine List.forall_mem_cons.mpr ⟨by k_mem, ?_⟩))); (case e2 => (repeat' (first | exact List.forall_mem_nil _ | refine List.forall_mem_cons.mpr ⟨by k_mem, ?_⟩))); (case e3 => (repeat' (first | exact List.forall_mem_nil _ | refine List.forall_mem_cons.mpr ⟨by k_mem, ?_⟩))); (case e4 => (repeat' (first | exact List.forall_mem_nil _ | refine List.forall_mem_cons.mpr ⟨by first | exact neSub (by assumption) (by repeat' (first | exact List.forall_mem_nil _ | refine List.forall_mem_cons.mpr ⟨by k_mem, ?_⟩)) | k_all, ?_⟩))))
end
end Mine
end

section
open PySem PySem.W PyProof.Rows
set_option Elab.async false
set_option maxRecDepth 100000
set_option maxHeartbeats 8000000
namespace Mine
section
theorem count_does (w : World) (mean : ExcName → Option Value) (mg mb : Str → Option Value) (d : Addr) (o : Obj) (r g b : Int)
    (hs : (d == sysModules) = false) (ho : DictIs w o r g b) :
    Does w mean mg mb 133 [.ref d] [(d, o)] 1 (fun tl v => ∃ t, v = .int (r + g + b) t) := by
  unfold Does
  k_fill
  intro dp un gd cn cs a ccd cl outer A₀ base h₀ L m news s Q E B F X N T hk hex hd hu hret
  have hfull := N
  have hN : News h₀ L s.heap _ := fun p hp => N p (hex p hp)
  clear N
  obtain ⟨kx, hx1, hx2⟩ := ho
  refine wpAny_call ?_
  k_dflt (refine' enterP (binds := [(Str.ofString "callers", .ref d)]) ?k1 ?k2 ?k3 hN ?k5 ?kA ?kF ?kK ?k6 ?k7 ?k8 ?k9 ?kB ?_ ?c2 ?c3 ?c4 ?c5; (case kA => exact rfl); (case kF => exact rfl); (case kK => assumption); (case k1 => k_asm); (case k2 => k_asm); (case k3 => k_asm); (case k5 => k_asm); (case k6 => k_is); (case k7 => k_is); (case k8 => ktr_room); (case k9 => first | exact BindsTo.of_eq rfl | exact binds_K (by k_in) rfl (by k_is) rfl rfl rfl); (case c5 => decide); (case kB => exact locs rfl); (case c2 => exact rfl); (case c3 => exact rfl); (case c4 => exact rfl); k_whole; intro g' L' h' tk' hg' FG' F' N' B' X' T' l1; (try dsimp only); (try k_fold))
  (try k_lt l1)
  repeat' (first | (k_unfold; (try dsimp only)) | (k_end; wrow_close) | (walk1; (first | (with_reducible show wpAny _ _ (subscriptTail _ _ _ (Value.ref _)) _ _ _) | (with_reducible show wpAny _ _ (setItem _ (Value.ref _) _) _ _ _) | dsimp only | skip)) | (dsimp only; walk1) | (leave1; (try dsimp only)) | fail "no step")
  have e : (0 : Int) + r + g + b = r + g + b := by omega
  (refine' hret _ [] _ _ ?e0 (newsBack hfull hg' (by assumption) (by assumption) ?e1 hex ?e2) (apartBack hfull hg' (by assumption) ?e3 ?e4) ⟨_, by rw [e]⟩; (case e0 => k_asm); (case e1 => (repeat' (first | exact List.forall_mem_nil _ | refine List.forall_mem_cons.mpr ⟨by k_mem, ?_⟩))); (case e2 => (repeat' (first | exact List.forall_mem_nil _ | refine List.forall_mem_cons.mpr ⟨by k_mem, ?_⟩))); (case e3 => (repeat' (first | exact List.forall_mem_nil _ | refine List.forall_mem_cons.mpr ⟨by k_mem, ?_⟩))); (case e4 => (repeat' (first | exact List.forall_mem_nil _ | refine List.forall_mem_cons.mpr ⟨by first | exact neSub (by assumption) (by repeat' (first | exact List.forall_mem_nil _ | refine List.forall_mem_cons.mpr ⟨by k_mem, ?_⟩)) | k_all, ?_⟩))))
end
end Mine
end

section
open PySem PySem.W PyProof.Rows PySem.Builtin
set_option maxRecDepth 100000
namespace Mine
section
variable {prog : Program} {w : World} {A : Around} {E : Value → Shared → Prop} {s : Shared} {K : Frag} {x C : Addr} {ox : Obj} {od : Option Obj} {pl : Sem Bool} {name : Str}
/-- a method found in the class of an object, a def's or a built-in's -/
theorem method_own {Q : Value × List Value → Shared → Prop} {ga : String} {f t : Value} (X : K.In s.heap) (I : InstAt s.heap x ox C od) (hga : findIn K (.ref C) "__getattribute__" = some (some (.builtin ga)))
    (hcan : (Manifest.canonical ga != "object.__getattribute__") = false) (hk : findIn K (.ref C) "__getattr__" = some none)
    (hf : findIn K (.ref C) name = some (some f)) (ht : typeIn K f = some t) (htt : (t != .type "function" && t != .type "method_descriptor" && t != .type "wrapper_descriptor") = false) (hs : shadowIn od name = some false)
    (h : Q (f, [.ref x]) s) : wpAny (model prog w) A (getMethod (.ref x) name pl) Q E s := by
  unfold getMethod specialOf
  refine wpAny_bind (wpAny_bind (I.type.here ((looks_findIn X hga).here ?_)))
  dsimp only
  rw [hcan, if_neg (by decide)]
  refine wpAny_bind (wpAny_bind (I.type.here ((looks_findIn X hk).here ?_)))
  refine wpAny_bind (wpAny_bind (I.type.here ((looks_findIn X hf).here (wpAny_bind ((looks_typeIn X ht).here ?_)))))
  rw [htt, if_neg (by decide)]
  refine wpAny_bind (wpAny_loadPart I.at_ ?_)
  have hd := I.dict
  cases e : ox.dict with
  | none => exact wpAny_bind (wpAny_rule (wpAny_pure h))
  | some dx =>
    cases od with
    | none => rw [e] at hd; exact hd.elim
    | some o =>
      rw [e] at hd
      obtain ⟨r, a, b⟩ := Option.map_eq_some_iff.mp hs
      refine wpAny_bind (wpAny_bind (wpAny_loadPart hd ?_))
      rw [nsLook_of a]
      refine wpAny_pure ?_
      rw [b]
      exact wpAny_bind (wpAny_rule (wpAny_pure h))
theorem check_meth {M : Model} {i owner n : String} {self : Value} {rest : List Value} {kw : List (Str × Value)} {Q : Unit → Shared → Prop}
    (hk : builtinKind i = some .method) (hs : splitId i = some (owner, n)) (hi : Looks M s.heap (isInstance self (.type owner)) true) (ha : argsOk i ⟨self :: rest, kw⟩) (q : Q () s) :
    wpAny M A (checkBuiltinCall i ⟨self :: rest, kw⟩) Q E s := by
  simp only [checkBuiltinCall, hk, hs]
  refine wpAny_bind (hi.here ?_)
  simp only [Bool.not_true, Bool.false_eq_true, if_false]
  cases hsig : Manifest.signature? i with
  | none => exact wpAny_pure q
  | some sig =>
    simp only [argsOk, hsig] at ha
    have h2 : Bind.checkArgs i sig ⟨self :: rest, kw⟩ = pure () := ha
    show wpAny M A (Bind.checkArgs i sig ⟨self :: rest, kw⟩) Q E s
    rw [h2]; exact wpAny_pure q
/-- a built-in method called with an object of an own class -/
theorem call_own {id owner n : String} {B : Builtin} {self : Value} {rest : List Value} {Q : Value → Shared → Prop} (hp : plainId id = true) (hb : entryFor table id = some B)
    (hk : builtinKind id = some .slot ∨ builtinKind id = some .method) (hs : splitId id = some (owner, n)) (hi : Looks (model prog w) s.heap (isInstance self (.type owner)) true) (ha : argsOk id ⟨self :: rest, []⟩)
    (h : wpAny (model prog w) A.in1 (B ⟨self :: rest, []⟩) (fun fin s' => ∃ v, fin = .done (.ret v) ∧ Q v s') E s) : wpAny (model prog w) A (call (.builtin id) (self :: rest)) Q E s := by
  refine wpAny_call (codeAny_call_builtin hp hb ?_)
  have go : ∀ {s'}, wpAny (model prog w) A.in1 (B ⟨self :: rest, []⟩) (fun fin s' => ∃ v, fin = .done (.ret v) ∧ Q v s') E s' → wpAny (model prog w) A.in1 (B ⟨self :: rest, []⟩) (fun fin s' => match fin with | .done f => (match f with | .ret v => Q v s' | _ => False) | .again c' => False) E s' := fun h => wpAny_mono h (fun fin s' h' => by obtain ⟨v, rfl, hv⟩ := h'; exact hv) fun _ _ e => e
  rcases hk with hk | hk
  · exact check_slot hk hs hi ha (wpAny_mono h (fun fin s' h' => by obtain ⟨v, rfl, hv⟩ := h'; exact hv) fun _ _ e => e)
  · exact check_meth hk hs hi ha (wpAny_mono h (fun fin s' h' => by obtain ⟨v, rfl, hv⟩ := h'; exact hv) fun _ _ e => e)
end
end Mine
end

section
open PySem PySem.W PyProof.Rows PySem.Builtin PySem.Builtin.List
set_option maxRecDepth 100000
namespace Mine
abbrev pileO (D : Addr) (vs : List Value) (n : Nat) : Obj := { cls := .ref 108, dict := some D, data := .seq vs.toArray n }
theorem pk_append (p : Params) : findIn (K63 p) (.ref 108) "append" = some (some (.builtin "list.append")) := by kernel_rfl
theorem pk_ga (p : Params) : findIn (K63 p) (.ref 108) "__getattribute__" = some (some (.builtin "list.__getattribute__")) := by kernel_rfl
theorem pk_canon : (Manifest.canonical "list.__getattribute__" != "object.__getattribute__") = false := by decide +kernel
theorem pk_getattr (p : Params) : findIn (K63 p) (.ref 108) "__getattr__" = some none := by kernel_rfl
theorem pk_sub (p : Params) : mroIn (K63 p) 108 (.type "list") = some true := by kernel_rfl
theorem pk_getitem (p : Params) : findIn (K63 p) (.ref 108) "__getitem__" = some (some (.builtin "list.__getitem__")) := by kernel_rfl
theorem pk_setitem (p : Params) : findIn (K63 p) (.ref 108) "__setitem__" = some (some (.builtin "list.__setitem__")) := by kernel_rfl
section
variable {prog : Program} {w : World} {M : Model} {A : Around} {E : Value → Shared → Prop} {s : Shared} {P : Params} {p D : Addr} {vs : List Value} {n : Nat} {od : Obj}
structure PileAt (h : Heap) (p D : Addr) (vs : List Value) (n : Nat) (od : Obj) : Prop where
  at_ : h.get? p = some (pileO D vs n)
  dict : h.get? D = some od
theorem PileAt.inst {h : Heap} (I : PileAt h p D vs n od) : PySem.W.InstAt h p (pileO D vs n) 108 (some od) := ⟨I.at_, rfl, rfl, I.dict⟩
theorem PileAt.isList {h : Heap} (X : (K63 P).In h) (I : PileAt h p D vs n od) : Looks M h (isInstance (.ref p) (.type "list")) true := I.inst.type.andThen (looks_mroIn X (pk_sub P))
theorem body_append {v : Value} {Q : Value → Shared → Prop} (I : PileAt s.heap p D vs n od) (hsz : vs.length ≤ 12)
    (h : ∀ h', Heap.SameBut p s.heap h' → h'.get? p = some (pileO D (vs ++ [v]) (n + 1)) → Q .none { s with heap := h' }) :
    wpAny (model prog w) A (Builtin.«list.append» ⟨[.ref p, v], []⟩) (fun fin s' => ∃ r, fin = .done (.ret r) ∧ Q r s') E s := by
  show wpAny _ _ (updateSeq p (·.push v) >>= fun _ => ret .none) _ _ s
  refine wpAny_bind ?_
  refine wpAny_updateSeq I.at_ rfl (wpAny_pure ⟨.none, rfl, h _ (Heap.SameBut.update ..) ?_⟩) (by rw [List.size_toArray, sizeLine_eq]; omega) (by rw [Array.size_push, List.size_toArray, sizeLine_eq]; omega)
  rw [Heap.get?_update_self _ I.at_ rfl]
  simp [Obj.mapSeq]
theorem pile_append {v : Value} {Q : Value → Shared → Prop} (X : (K63 P).In s.heap) (I : PileAt s.heap p D vs n od) (hsz : vs.length ≤ 12)
    (h : ∀ h', Heap.SameBut p s.heap h' → h'.get? p = some (pileO D (vs ++ [v]) (n + 1)) → Q .none { s with heap := h' }) : wpAny (model prog w) A (call (.builtin "list.append") [.ref p, v]) Q E s := by
  exact call_own (owner := "list") (n := "append") (by decide +kernel) PySem.F.entry_list_append (.inr (by decide +kernel)) (by decide +kernel) (I.isList X) (PySem.F.args_list_append_2 _ _) (body_append I hsz h)
theorem body_len {Q : Value → Shared → Prop} (I : PileAt s.heap p D vs n od) (h : Q (.int vs.length s.toks) { s with toks := s.toks + 1 }) :
    wpAny (model prog w) A (Builtin.«list.__len__» ⟨[.ref p], []⟩) (fun fin s' => ∃ r, fin = .done (.ret r) ∧ Q r s') E s := by
  show wpAny _ _ (seqSize p >>= fun x => retInt x) _ _ s
  unfold seqSize
  refine wpAny_bind (wpAny_bind (wpAny_loadPart I.at_ (wpAny_pure ?_)))
  rw [List.size_toArray]
  unfold retInt
  exact wpAny_ret_mkInt h
theorem idx_last (n : Nat) : seqIndex? (-1) (n + 1) = some n := by
  unfold seqIndex?
  simp
  omega
theorem body_pop {v : Value} {Q : Value → Shared → Prop} (I : PileAt s.heap p D (vs ++ [v]) n od) (hsz : vs.length ≤ 12)
    (h : ∀ h', Heap.SameBut p s.heap h' → h'.get? p = some (pileO D vs (n + 1)) → Q v { s with heap := h' }) :
    wpAny (model prog w) A (Builtin.«list.pop» ⟨[.ref p], []⟩) (fun fin s' => ∃ r, fin = .done (.ret r) ∧ Q r s') E s := by
  show wpAny _ _ (listItems (.ref p) >>= _) _ _ s
  unfold listItems
  refine wpAny_bind (wpAny_bind (wpAny_seqItems I.at_ rfl (wpAny_pure ?_)))
  have e0 : (vs ++ [v]).toArray.isEmpty = false := by simp
  rw [if_neg (by rw [e0]; decide)]
  have e1 : (vs ++ [v]).toArray.size = vs.length + 1 := by simp
  have e2 : (vs ++ [v]).toArray[vs.length]? = some v := by simp
  rw [e1, idx_last]
  simp only [Option.bind_some, e2, Option.map_some]
  show wpAny _ _ (updateSeq p (·.eraseIdxIfInBounds vs.length) >>= fun _ => ret v) _ _ s
  refine wpAny_bind ?_
  have e3 : (vs ++ [v]).toArray.eraseIdxIfInBounds vs.length = vs.toArray := by
    apply Array.toList_inj.mp
    simp [Array.toList_eraseIdxIfInBounds, List.eraseIdx_append_of_length_le]
  refine wpAny_updateSeq I.at_ rfl (wpAny_pure ⟨v, rfl, h _ (Heap.SameBut.update ..) ?_⟩) (by rw [e1, sizeLine_eq]; omega) (by rw [e3, List.size_toArray, sizeLine_eq]; omega)
  rw [Heap.get?_update_self _ I.at_ rfl]
  show some (Obj.mapSeq (·.eraseIdxIfInBounds vs.length) (pileO D (vs ++ [v]) n)) = _
  simp only [Obj.mapSeq, e3]
  simp
theorem special_bi {name : Str} {id : String} {C : Addr} {ox : Obj} {od : Option Obj} {x : Addr} {args : List Value} {K : Frag} {Q : Option Value → Shared → Prop} (X : K.In s.heap) (I : PySem.W.InstAt s.heap x ox C od)
    (hs : findIn K (.ref C) name = some (some (.builtin id))) (hb : ∀ self, bindSpecial (.builtin id) self = pure (.builtin id, [self])) (h : wpAny M A (call (.builtin id) (.ref x :: args)) (fun v => Q (some v)) E s) :
    wpAny M A (callSpecial? (.ref x) name args) Q E s := by
  unfold callSpecial? specialOf
  refine wpAny_bind (wpAny_bind (I.type.here ((looks_findIn X hs).here ?_)))
  dsimp only
  refine wpAny_holding ?_
  rw [hb]
  exact wpAny_bind (wpAny_pure (wpAny_bind (wpAny_mono h (fun _ _ z => wpAny_pure z) fun _ _ z => z)))
theorem pk_noSeq (p : Params) : noSeq (K63 p) 108 = true := by kernel_rfl
theorem pile_key {k : Value} {name : Str} {Q : Value → Shared → Prop} (X : (K63 P).In s.heap) (I : PileAt s.heap p D vs n od) (h : Q k s) : wpAny M A (sequenceKey (.ref p) k name) Q E s := by
  unfold sequenceKey
  refine wpAny_bind (I.inst.type.here ?_)
  refine wpAny_bind ((anyM_none X (pk_noSeq P)).here ?_)
  rw [if_pos (show (!false) = true from rfl)]
  exact wpAny_pure h
theorem pile_slice {sl : Addr} {i : Nat} {t : Tok} {Q : Value → Shared → Prop} (X : (K63 P).In s.heap) (I : PileAt s.heap p D vs n od) (hsl : s.heap.IsSliceOf sl (.int i t) .none .none) (hi : i ≤ vs.length) (hsz : vs.length ≤ 12)
    (h : Q (.ref s.heap.objs.size) { s with heap := s.heap.push (listOf (vs.drop i).toArray 0) }) : wpAny (model prog w) A (getItem (.ref p) (.ref sl)) Q E s := by
  obtain ⟨os, hos, hcs, hds⟩ := id hsl
  have hTs : s.TypeIs (.ref sl) "slice" := ⟨os, hos, hcs⟩
  unfold getItem
  refine wpAny_holding ?_
  refine wpAny_bind (pile_key X I ?_)
  refine wpAny_bind (special_bi X I.inst (pk_getitem P) PySem.F.slot_list_getitem.bind ?_)
  refine call_own (owner := "list") (n := "__getitem__") (by decide +kernel) PySem.F.entry_list_getitem (.inr (by decide +kernel)) (by decide +kernel) (I.isList X) (PySem.F.args_list_getitem_2 _ _) ?_
  show wpAny _ _ (listSubscript? (.ref sl) >>= _) _ _ s
  unfold listSubscript?
  refine wpAny_bind (wpAny_bind (wpAny_specialOf hTs slice_no_index ?_))
  simp only [Option.isNone_none, if_true]
  refine wpAny_pure ?_
  show wpAny _ _ (typeOf (.ref sl) >>= _) _ _ s
  refine wpAny_bind (wpAny_typeOf hTs ?_)
  rw [if_neg (by decide)]
  rw [listSliceParts_eq]
  refine wpAny_bind (wpAny_bind (wpAny_field hos hds (x := .none) rfl (wpAny_bind (wpAny_listPart .none ?_))))
  rw [if_neg (by decide)]
  refine wpAny_bind (wpAny_field hos hds (x := .int i t) rfl (wpAny_bind (wpAny_listPart (.int _ _) ?_)))
  refine wpAny_bind (wpAny_field hos hds (x := .none) rfl (wpAny_bind (wpAny_listPart .none (wpAny_pure ?_))))
  refine wpAny_bind (m := listItems (.ref p)) ?_
  unfold listItems
  refine wpAny_bind (wpAny_seqItems I.at_ rfl (wpAny_pure ?_))
  refine wpAny_bind (wpAny_of_eq (sliceIndices_raw (some (i : Int)) none none vs.toArray.size (by simp)) ?_)
  have e := slicePick_from vs.toArray i (by simpa using hi)
  unfold slicePick at e
  refine wpAny_bind (wpAny_newObj_type (wpAny_pure ⟨_, rfl, wpAny_pure ?_⟩) ?_)
  · rw [e]; exact h
  · rw [e]; show ((vs.drop i).toArray).size ≤ sizeLine; rw [sizeLine_eq]; simp; omega
theorem pile_cut {sl em : Addr} {i : Nat} {t : Tok} {ne : Nat} {Q : Unit → Shared → Prop} (X : (K63 P).In s.heap) (I : PileAt s.heap p D vs n od) (hsl : s.heap.IsSliceOf sl (.int i t) .none .none) (hem : s.heap.get? em = some (listOf #[] ne)) (hne : p ≠ em)
    (hi : i ≤ vs.length) (hsz : vs.length ≤ 12)
    (h : ∀ h' n', Heap.SameBut p s.heap h' → h'.get? p = some (pileO D (vs.take i) n') → Q () { s with heap := h' }) : wpAny (model prog w) A (setItem (.ref p) (.ref sl) (.ref em)) Q E s := by
  obtain ⟨os, hos, hcs, hds⟩ := id hsl
  have hTs : s.TypeIs (.ref sl) "slice" := ⟨os, hos, hcs⟩
  have hTe : s.TypeIs (.ref em) "list" := ⟨_, hem, rfl⟩
  unfold setItem
  refine wpAny_holding ?_
  refine wpAny_bind (pile_key X I ?_)
  refine wpAny_bind (special_bi X I.inst (pk_setitem P) PySem.F.slot_list_setitem.bind ?_)
  refine call_own (owner := "list") (n := "__setitem__") (by decide +kernel) PySem.F.entry_list_setitem (.inl (by decide +kernel)) (by decide +kernel) (I.isList X) (PySem.F.args_list_setitem_3 _ _ _) ?_
  show wpAny _ _ (listSubscript? (.ref sl) >>= _) _ _ s
  unfold listSubscript?
  refine wpAny_bind (wpAny_bind (wpAny_specialOf hTs slice_no_index ?_))
  simp only [Option.isNone_none, if_true]
  refine wpAny_pure ?_
  show wpAny _ _ (typeOf (.ref sl) >>= _) _ _ s
  refine wpAny_bind (wpAny_typeOf hTs ?_)
  rw [if_neg (by decide)]
  rw [listSliceParts_eq]
  refine wpAny_bind (wpAny_bind (wpAny_field hos hds (x := .none) rfl (wpAny_bind (wpAny_listPart .none ?_))))
  rw [if_neg (by decide)]
  refine wpAny_bind (wpAny_field hos hds (x := .int i t) rfl (wpAny_bind (wpAny_listPart (.int _ _) ?_)))
  refine wpAny_bind (wpAny_field hos hds (x := .none) rfl (wpAny_bind (wpAny_listPart .none (wpAny_pure ?_))))
  have hsame : listSameRef (.ref p) (.ref em) = false := by simpa [listSameRef] using hne
  rw [hsame, if_neg (by decide)]
  unfold listAllItems
  refine wpAny_bind (wpAny_bind (wpAny_typeOf hTe ?_))
  rw [if_pos (by decide)]
  unfold listItems
  refine wpAny_bind (wpAny_seqItems hem rfl (wpAny_pure ?_))
  refine wpAny_bind (wpAny_bind (wpAny_seqItems I.at_ rfl (wpAny_pure ?_)))
  refine wpAny_bind (wpAny_of_eq (sliceIndices_raw (some (i : Int)) none none vs.toArray.size (by simp)) ?_)
  have eb : sliceBounds (some (i : Int)) none none vs.toArray.size = ((i : Int), (vs.length : Int), 1) := by
    simp only [sliceBounds, Option.getD_none, List.size_toArray]
    have h1 : ¬ ((i : Int) < 0) := by omega
    simp only [h1, if_false, show (1 : Int) > 0 by decide, if_true]
    congr 1
    omega
  rw [eb]
  dsimp only
  rw [if_pos (by decide)]
  refine wpAny_bind (wpAny_rule ?_)
  have e3 : (vs.toArray.extract 0 ((i : Int)).toNat ++ #[] ++ vs.toArray.extract (max (i : Int) (vs.length : Int)).toNat) = (vs.take i).toArray := by
    apply Array.toList_inj.mp
    have : (max (i : Int) (vs.length : Int)).toNat = vs.length := by omega
    rw [this]
    simp
  have e4 : listTooLong (vs.toArray.size + (#[] : Array Value).size) = false := by
    unfold listTooLong; rw [sizeLine_eq]; simp; omega
  rw [e4, if_neg (by decide)]
  show wpAny _ _ (updateSeq p (fun xs => xs.extract 0 ((i : Int)).toNat ++ #[] ++ xs.extract (max (i : Int) (vs.length : Int)).toNat) >>= _) _ _ s
  refine wpAny_bind ?_
  refine wpAny_updateSeq I.at_ rfl (wpAny_bind (PySem.wpAny_letGo (wpAny_pure ⟨.none, rfl, wpAny_pure (h _ (if (vs.take i).toArray.size == vs.toArray.size then n else n + 1) (Heap.SameBut.update ..) ?_)⟩))) (by rw [List.size_toArray, sizeLine_eq]; omega) (by rw [e3, List.size_toArray, sizeLine_eq, List.length_take]; omega)
  rw [Heap.get?_update_self _ I.at_ rfl]
  show some (Obj.mapSeq _ (pileO D vs n)) = _
  simp only [Obj.mapSeq, e3]
end
end Mine
end

section
open PySem PySem.W PyProof.Rows PySem.Builtin PySem.Builtin.List
set_option maxRecDepth 100000
namespace Mine
theorem slot_md_get : Slot "method_descriptor" "__get__" "method_descriptor.__get__" := .of (owner := "method_descriptor") (n := "__get__") (by rw [typeLookup_type, builtinLookup_eq_fast]; kernel_rfl) (by decide +kernel) (by decide +kernel) (by decide +kernel)
  (by first | exact .inl (by decide +kernel) | exact .inr (by decide +kernel)) (by rw [isSubtype_type]; kernel_rfl)
theorem entry_md_get : entryFor table "method_descriptor.__get__" = some Builtin.«method_descriptor.__get__» := entryFor_of_tree (by kernel_rfl)
theorem args_md_get (a b c : Value) : argsOk "method_descriptor.__get__" ⟨[a, b, c], []⟩ := by unfold argsOk; kernel_rfl
theorem slot_wd_get : Slot "wrapper_descriptor" "__get__" "wrapper_descriptor.__get__" := .of (owner := "wrapper_descriptor") (n := "__get__") (by rw [typeLookup_type, builtinLookup_eq_fast]; kernel_rfl) (by decide +kernel) (by decide +kernel) (by decide +kernel)
  (by first | exact .inl (by decide +kernel) | exact .inr (by decide +kernel)) (by rw [isSubtype_type]; kernel_rfl)
theorem entry_wd_get : entryFor table "wrapper_descriptor.__get__" = some Builtin.«wrapper_descriptor.__get__» := entryFor_of_tree (by kernel_rfl)
theorem args_wd_get (a b c : Value) : argsOk "wrapper_descriptor.__get__" ⟨[a, b, c], []⟩ := by unfold argsOk; kernel_rfl
theorem ty_pop : typeOf (.builtin "list.pop") = pure (.type "method_descriptor") := PySem.F.type_list_pop
theorem ty_len : typeOf (.builtin "list.__len__") = pure (.type "wrapper_descriptor") := by show builtinType _ = _; rw [builtinType_eq_fast]; kernel_rfl
theorem ty_init : typeOf (.builtin "list.__init__") = pure (.type "wrapper_descriptor") := by show builtinType _ = _; rw [builtinType_eq_fast]; kernel_rfl
section
variable {prog : Program} {w : World} {M : Model} {A : Around} {E : Value → Shared → Prop} {s : Shared} {P : Params} {p D : Addr} {vs : List Value} {n : Nat} {od : Obj}
abbrev boundO (T id : String) (p : Addr) : Obj := { cls := .type T, data := .fields #[.builtin id, .ref p] }
theorem own_pop : ".".intercalate ("list.pop".cutAt '.').dropLast = "list" := by decide +kernel
theorem get_pop {c : Addr} {Q : Value → Shared → Prop} (X : (K63 P).In s.heap) (I : PileAt s.heap p D vs n od)
    (h : Q (.ref s.heap.objs.size) { s with heap := s.heap.push (boundO "builtin_function_or_method" "list.pop" p) }) :
    wpAny (model prog w) A (call (.builtin "method_descriptor.__get__") [.builtin "list.pop", .ref p, .ref c]) Q E s := by
  refine wpAny_call (codeAny_call_builtin slot_md_get.plain entry_md_get (check_slot (i := "method_descriptor.__get__") (owner := "method_descriptor") (n := "__get__") (by decide +kernel) (by decide +kernel) ?_ (args_md_get _ _ _) ?_))
  · refine Looks.of_pure ?_
    unfold isInstance; rw [ty_pop]; kernel_rfl
  · obtain ⟨hh, g, d, t, os⟩ := s
    unfold Builtin.«method_descriptor.__get__»
    repeat (first | (with_reducible refine wpAny_loadPart I.at_ ?_) | (rw [own_pop]; refine Looks.at (looks_mroIn X (pk_sub P)) ?_) | (unfold newFields; refine wpAny_bind (wpAny_newObj_type ?_)) | wp_step | dsimp only)
    all_goals exact h
theorem own_len : ".".intercalate ("list.__len__".cutAt '.').dropLast = "list" := by decide +kernel
theorem get_len {c : Addr} {Q : Value → Shared → Prop} (X : (K63 P).In s.heap) (I : PileAt s.heap p D vs n od)
    (h : Q (.ref s.heap.objs.size) { s with heap := s.heap.push (boundO "method-wrapper" "list.__len__" p) }) :
    wpAny (model prog w) A (call (.builtin "wrapper_descriptor.__get__") [.builtin "list.__len__", .ref p, .ref c]) Q E s := by
  refine wpAny_call (codeAny_call_builtin slot_wd_get.plain entry_wd_get (check_slot (i := "wrapper_descriptor.__get__") (owner := "wrapper_descriptor") (n := "__get__") (by decide +kernel) (by decide +kernel) ?_ (args_wd_get _ _ _) ?_))
  · refine Looks.of_pure ?_
    unfold isInstance; rw [ty_len]; kernel_rfl
  · obtain ⟨hh, g, d, t, os⟩ := s
    unfold Builtin.«wrapper_descriptor.__get__»
    repeat (first | (with_reducible refine wpAny_loadPart I.at_ ?_) | (rw [own_len]; refine Looks.at (looks_mroIn X (pk_sub P)) ?_) | (unfold newFields; refine wpAny_bind (wpAny_newObj_type ?_)) | wp_step | dsimp only)
    all_goals exact h
theorem own_init : ".".intercalate ("list.__init__".cutAt '.').dropLast = "list" := by decide +kernel
theorem get_init {c : Addr} {Q : Value → Shared → Prop} (X : (K63 P).In s.heap) (I : PileAt s.heap p D vs n od)
    (h : Q (.ref s.heap.objs.size) { s with heap := s.heap.push (boundO "method-wrapper" "list.__init__" p) }) :
    wpAny (model prog w) A (call (.builtin "wrapper_descriptor.__get__") [.builtin "list.__init__", .ref p, .ref c]) Q E s := by
  refine wpAny_call (codeAny_call_builtin slot_wd_get.plain entry_wd_get (check_slot (i := "wrapper_descriptor.__get__") (owner := "wrapper_descriptor") (n := "__get__") (by decide +kernel) (by decide +kernel) ?_ (args_wd_get _ _ _) ?_))
  · refine Looks.of_pure ?_
    unfold isInstance; rw [ty_init]; kernel_rfl
  · obtain ⟨hh, g, d, t, os⟩ := s
    unfold Builtin.«wrapper_descriptor.__get__»
    repeat (first | (with_reducible refine wpAny_loadPart I.at_ ?_) | (rw [own_init]; refine Looks.at (looks_mroIn X (pk_sub P)) ?_) | (unfold newFields; refine wpAny_bind (wpAny_newObj_type ?_)) | wp_step | dsimp only)
    all_goals exact h
end
end Mine
end

section
open PySem PySem.W PyProof.Rows PySem.Builtin PySem.Builtin.List
set_option maxRecDepth 100000
namespace Mine
section
variable {prog : Program} {w : World} {M : Model} {A : Around} {E : Value → Shared → Prop} {h : Heap} {g : Array GenState} {d : Drawn} {t : Nat} {os : OsState} {P : Params} {p D : Addr} {vs : List Value} {n : Nat} {od : Obj}
theorem pk_opaque (p : Params) : nsIn (K63 p) cStatics "thirdparty.any" = some none := by kernel_rfl
theorem pk_mro (p : Params) : (clsIn (K63 p) 108).map (·.mro) = some [.ref 108, .type "list", .type "object"] := by kernel_rfl
theorem pk_pop (p : Params) : alongIn (K63 p) "pop" [.type "list", .type "object"] = some (some (.builtin "list.pop")) := by kernel_rfl
theorem pk_len (p : Params) : alongIn (K63 p) "__len__" [.type "list", .type "object"] = some (some (.builtin "list.__len__")) := by kernel_rfl
theorem pk_init (p : Params) : alongIn (K63 p) "__init__" [.type "list", .type "object"] = some (some (.builtin "list.__init__")) := by kernel_rfl
theorem pk_mroLooks {K : Frag} {cd : ClassData} (X : K.In h) {l : List Value} (hc : (clsIn K 108).map (·.mro) = some l) : Looks M h (mroOf (.ref 108)) l := by
  obtain ⟨cd, h1, rfl⟩ := Option.map_eq_some_iff.mp hc
  exact (looks_clsIn X h1).andThen .now
theorem super_ga {so : Addr} {name : Str} {tk : Tok} {id T gid bt : String} {Q : Fin → Shared → Prop}
    (hso : h.get? so = some (ks_superObj 108 p 108)) (X : (K63 P).In h) (hf : alongIn (K63 P) name [.type "list", .type "object"] = some (some (.builtin id)))
    (hty : typeOf (.builtin id) = pure (.type T)) (hlk : typeLookup (.type T) "__get__" = pure (some (.builtin gid))) (hpC : p ≠ 108) (hn : (name == ("__class__" : Str)) = false)
    (hcall : ∀ (A : Around) (Q' : Value → Shared → Prop) (E' : Value → Shared → Prop), Q' (.ref h.objs.size) ⟨h.push (boundO bt id p), g, d, t, os⟩ → wpAny (model prog w) A (call (.builtin gid) [.builtin id, .ref p, .ref 108]) Q' E' ⟨h, g, d, t, os⟩)
    (hq : Q (.done (.ret (.ref h.objs.size))) ⟨h.push (boundO bt id p), g, d, t, os⟩) :
    wpAny (model prog w) A (Builtin.«super.__getattribute__» ⟨[.ref so, .str name tk], []⟩) Q E ⟨h, g, d, t, os⟩ := by
  have hno : Looks (model prog w) h (opaqueClassAbove (.ref 108)) none := looks_opaque X (pk_opaque P)
  have hC : Looks (model prog w) h (mroOf (.ref 108)) [.ref 108, .type "list", .type "object"] := by
    obtain ⟨cd, h1, h2⟩ := Option.map_eq_some_iff.mp (pk_mro P)
    rw [← h2]; exact (looks_clsIn X h1).andThen .now
  have hne : (Value.ref p == Value.ref 108) = false := by simp [hpC]
  have f0 : (#[.ref 108, .ref p, .ref 108] : Array Value)[0]? = some (.ref 108) := rfl
  have f1 : (#[.ref 108, .ref p, .ref 108] : Array Value)[1]? = some (.ref p) := rfl
  have f2 : (#[.ref 108, .ref p, .ref 108] : Array Value)[2]? = some (.ref 108) := rfl
  have hdt : (ks_superObj 108 p 108).data = .fields #[.ref 108, .ref p, .ref 108] := rfl
  unfold Builtin.«super.__getattribute__»
  repeat (first
    | (with_reducible refine wpAny_field hso hdt f0 ?_) | (with_reducible refine wpAny_field hso hdt f1 ?_) | (with_reducible refine wpAny_field hso hdt f2 ?_)
    | (with_reducible refine ks_wpAny_notOpaque hno ?_)
    | (with_reducible refine Looks.at hC ?_; rw [show (([.ref 108, .type "list", .type "object"] : List Value).dropWhile (· != .ref 108)).drop 1 = [.type "list", .type "object"] from by decide +kernel])
    | (refine ks_forIn_along X (fun _ _ => rfl) rfl ?_ hf)
    | (with_reducible refine wpAny_of_eq hty ?_)
    | (with_reducible refine wpAny_of_eq hlk ?_)
    | (with_reducible refine hcall _ _ _ ?_)
    | (with_reducible refine ⟨_, rfl, ?_⟩)
    | (simp only [hn, hne, Bool.or_false, Bool.false_eq_true, if_false])
    | wp_step
    | dsimp only)
  all_goals exact hq
theorem super_meth {so : Addr} {name : Str} {id T gid bt : String} {pl : Sem Bool} {Q : Value × List Value → Shared → Prop}
    (hso : h.get? so = some (ks_superObj 108 p 108)) (X : (K63 P).In h) (hf : alongIn (K63 P) name [.type "list", .type "object"] = some (some (.builtin id)))
    (hty : typeOf (.builtin id) = pure (.type T)) (hlk : typeLookup (.type T) "__get__" = pure (some (.builtin gid))) (hpC : p ≠ 108) (hn : (name == ("__class__" : Str)) = false)
    (hcall : ∀ (A : Around) (t : Nat) (Q' : Value → Shared → Prop) (E' : Value → Shared → Prop), Q' (.ref h.objs.size) ⟨h.push (boundO bt id p), g, d, t, os⟩ → wpAny (model prog w) A (call (.builtin gid) [.builtin id, .ref p, .ref 108]) Q' E' ⟨h, g, d, t, os⟩)
    (hq : Q (.ref h.objs.size, []) ⟨h.push (boundO bt id p), g, d, t + 1, os⟩) : wpAny (model prog w) A (getMethod (.ref so) name pl) Q E ⟨h, g, d, t, os⟩ := by
  have hl := F.ks_slot_super_ga.lookup
  have hT : ∀ t', (⟨h, g, d, t', os⟩ : Shared).TypeIs (.ref so) "super" := fun _ => ⟨_, hso, rfl⟩
  unfold getMethod
  refine wpAny_bind (wpAny_specialOf (hT _) hl ?_)
  show wpAny _ _ (if (Manifest.canonical "super.__getattribute__" != "object.__getattribute__") = true then _ else _) _ _ _
  rw [if_pos F.ks_canon_super_ga]
  unfold getAttr getAttrBy
  refine wpAny_bind (wpAny_bind (wpAny_mkText (wpAny_holding (wpAny_bind (wpAny_typeOf (hT _) (wpAny_bind (wpAny_of_eq hl ?_)))))))
  show wpAny _ _ (getAttrByItsOwn (.ref so) (.str name t) (.type "super") (.builtin "super.__getattribute__") true false) _ _ _
  unfold getAttrByItsOwn hookBefore callGetattribute boundAndCalled
  refine wpAny_bind (wpAny_of_eq (show (if onTheHeap (.type "super") then typeLookup (.type "super") "__getattr__" else pure none) = pure none from rfl) ?_)
  refine wpAny_bind (wpAny_attempt (wpAny_holding ?_))
  show wpAny _ _ (bindSpecial (.builtin "super.__getattribute__") (.ref so) >>= _) _ _ _
  refine wpAny_bind (wpAny_of_eq (F.ks_slot_super_ga.bind _) ?_)
  refine wpAny_mono (Q := fun v s' => v = .ref h.objs.size ∧ s' = ⟨h.push (boundO bt id p), g, d, t + 1, os⟩) (E := fun _ _ => False)
    (wpAny_call_entry F.ks_slot_super_ga (hT _) F.ks_entry_super_ga (super_ga hso X hf hty hlk hpC hn (fun A => hcall A _) ⟨_, rfl, rfl, rfl⟩) (F.ks_gaArgs_super _ _)) (fun v s' hv => ?_) fun _ _ z => z.elim
  obtain ⟨rfl, rfl⟩ := hv
  exact wpAny_pure (wpAny_pure hq)
/-- a bound built-in called without arguments -/
theorem bound_call {b : Addr} {id bt : String} {B : Builtin} {Q : Value → Shared → Prop} {s : Shared} (hb : s.heap.get? b = some (boundO bt id p)) (hb1 : (Value.type bt == .type "method" || Value.type bt == .type "builtin_function_or_method" || Value.type bt == .type "method-wrapper") = true) (hb2 : (Value.type bt != .type "method") = true)
    (hp : plainId id = true) (he : entryFor table id = some B)
    (hck : ∀ (A : Around) (Q' : Unit → Shared → Prop) (E' : Value → Shared → Prop), Q' () s → wpAny (model prog w) A (checkBoundCall id ⟨[.ref p], []⟩) Q' E' s)
    (hB : ∀ A : Around, wpAny (model prog w) A (B ⟨[.ref p], []⟩) (fun fin s' => ∃ r, fin = .done (.ret r) ∧ Q r s') E s) : wpAny (model prog w) A (call (.ref b) []) Q E s := by
  refine wpAny_call (codeAny_of_tree ?_)
  show wpAny _ _ (callAny (.ref b) _) _ _ _
  unfold callAny
  refine wpAny_bind (wpAny_load hb ?_)
  dsimp only
  rw [if_pos hb1]
  show wpAny _ _ (if (Value.type bt != .type "method") = true then _ else _) _ _ _
  rw [if_pos hb2]
  refine wpAny_bind (hck _ _ _ (wpAny_pure ⟨plainId_quiet hp _, codeAny_builtin he ?_⟩))
  exact wpAny_mono (hB _) (fun fin s' h' => by obtain ⟨r, rfl, hr⟩ := h'; exact hr) fun _ _ e => e
theorem ck_len (p : Addr) : checkBoundCall "list.__len__" ⟨[.ref p], []⟩ = pure () := by kernel_rfl
theorem ck_init (p : Addr) : checkBoundCall "list.__init__" ⟨[.ref p], []⟩ = pure () := by kernel_rfl
theorem pk_module (p : Params) : mroIn (K63 p) 108 (.type "module") = some false := by kernel_rfl
theorem ck_args (p : Addr) : ((Manifest.signature? "list.pop").map fun sig => Bind.checkArgs "list.pop" { sig with full := toString (Str.ofString "_Accumulator").toString ++ toString "." ++ toString (Bind.lastOf "list.pop") } ⟨[.ref p], []⟩) = some (pure ()) := by kernel_rfl
theorem pk_qual (p : Params) : (clsIn (K63 p) 108).map (·.qualname) = some (Str.ofString "_Accumulator") := by kernel_rfl
theorem pk_meta (p : Params) : typeIn (K63 p) (.ref 108) = some (.type "type") := by kernel_rfl
theorem ck_pop {s : Shared} (X : (K63 P).In s.heap) (I : PileAt s.heap p D vs n od) (A : Around) (Q' : Unit → Shared → Prop) (E' : Value → Shared → Prop) (h : Q' () s) : wpAny (model prog w) A (checkBoundCall "list.pop" ⟨[.ref p], []⟩) Q' E' s := by
  obtain ⟨hh, g, d, t, os⟩ := s
  have hi : Looks (model prog w) hh (isInstance (.ref p) (.type "module")) false := I.inst.type.andThen (looks_mroIn X (pk_module P))
  unfold checkBoundCall
  have hsig : (Manifest.signature? "list.pop").isSome = true := by decide +kernel
  obtain ⟨sig, hs⟩ := Option.isSome_iff_exists.mp hsig
  have hk : builtinKind "list.pop" = some .method := by decide +kernel
  rw [hs, hk]
  dsimp only
  rw [if_neg (by decide)]
  refine wpAny_bind (hi.at ?_)
  have hv : Manifest.varargsMethods.contains "list.pop" = false := by decide +kernel
  rw [hv, if_neg (by decide)]
  refine wpAny_bind (ks_wpAny_isType_inst I.at_ (fun c e => by cases e) ?_)
  rw [if_neg (by decide)]
  have hT : Looks (model prog w) hh (typeOf (.ref p)) (.ref 108) := I.inst.type
  refine wpAny_bind (hT.at ?_)
  dsimp only
  obtain ⟨cd, h1, hq⟩ := Option.map_eq_some_iff.mp (pk_qual P)
  have hcd : Looks (model prog w) hh (classData 108) cd := looks_clsIn X h1
  have hmeta : Looks (model prog w) hh (typeOf (.ref 108)) (.type "type") := looks_typeIn X (pk_meta P)
  refine wpAny_bind (hcd.at (wpAny_bind (hmeta.at ?_)))
  rw [if_pos (by decide)]
  have ha := ck_args p
  rw [hq]
  rw [hs, Option.map_some] at ha
  exact wpAny_of_eq (Option.some.inj ha) h
end
end Mine
end

section
open PySem PySem.W PyProof.Rows PySem.Calls PySem.Builtin PySem.Builtin.List
set_option maxRecDepth 100000
namespace Mine
/-- a contract for a method that may turn the one object p -/
def DoesTo (w : World) (mean : ExcName → Option Value) (mg mb : Str → Option Value) (f : Addr) (vs : List Value) (p : Addr) (o : Obj) (ex : Led) (room : Nat) (Out : Led → Value → Obj → Prop) : Prop :=
  ∀ (dp un : Nat) (gd : Option (List Code)) (cn : Str) (cs : Scope) (a : Addr) (ccd : Value) (cl : List (Str × Addr)) (outer : List Env) (A₀ : Around) (base h₀ : Heap) (L : Addr) (m : Str → Option Value) (news : Led) (gg : Obj → Led) (s : Shared) (Q E : Value → Shared → Prop),
    Below A₀ base outer h₀ → Fr h₀ L s.heap m → (K63 w.params).In h₀ → News h₀ L s.heap news →
    Top view63 (looseW view63 [Str.ofString "ONE_THIRD", Str.ofString "ONE_SIXTH", Str.ofString "_Accumulator", Str.ofString "EXACT_TOKEN_TYPES"]) mean mg mb h₀ →
    cs.kind = .function → UpdF p o news gg → (∀ q ∈ ex, q ∈ news) → dp + room < recursionLimit → un + 8 * room < cLine →
    (∀ r tl o' h' tk', Fr h₀ L h' m → News h₀ L h' (tl ++ gg o') → (∀ q ∈ tl, ∀ x ∈ news, q.1 ≠ x.1) → Out tl r o' → Q r { s with heap := h', toks := tk' }) →
    wpAny (model Challenge.rw_xg0063_01.row.prog w) (ktrTop dp un gd cn cs L a ccd cl outer) (call (.ref f) vs) Q E s
theorem DoesTo.use {w : World} {mean : ExcName → Option Value} {mg mb : Str → Option Value} {f : Addr} {vs : List Value} {p : Addr} {o : Obj} {ex : Led} {room : Nat} {Out : Led → Value → Obj → Prop} (h : DoesTo w mean mg mb f vs p o ex room Out)
    {dp un : Nat} {gd : Option (List Code)} {cn : Str} {cs : Scope} {a : Addr} {ccd : Value} {cl : List (Str × Addr)} {outer : List Env} {A₀ : Around} {base h₀ : Heap} {L : Addr} {m : Str → Option Value} {news : Led} {gg : Obj → Led} {s : Shared} {Q E : Value → Shared → Prop}
    (B : Below A₀ base outer h₀) (F : Fr h₀ L s.heap m) (X : (K63 w.params).In h₀) (N : News h₀ L s.heap news)
    (T : Top view63 (looseW view63 [Str.ofString "ONE_THIRD", Str.ofString "ONE_SIXTH", Str.ofString "_Accumulator", Str.ofString "EXACT_TOKEN_TYPES"]) mean mg mb h₀)
    (hk : cs.kind = .function) (U : UpdF p o news gg) (hex : ∀ p ∈ ex, p ∈ news) (hd : dp + room < recursionLimit) (hu : un + 8 * room < cLine)
    (ret : ∀ r tl o' h' tk', Fr h₀ L h' m → News h₀ L h' (tl ++ gg o') → (∀ q ∈ tl, ∀ x ∈ news, q.1 ≠ x.1) → Out tl r o' → Q r { s with heap := h', toks := tk' }) :
    wpAny (model Challenge.rw_xg0063_01.row.prog w) (ktrTop dp un gd cn cs L a ccd cl outer) (call (.ref f) vs) Q E s :=
  h dp un gd cn cs a ccd cl outer A₀ base h₀ L m news gg s Q E B F X N T hk U hex hd hu ret
theorem UpdF.mem {p : Addr} {o : Obj} {news : Led} {gg : Obj → Led} (U : UpdF p o news gg) : (p, o) ∈ news := by
  obtain ⟨pre, post, e, _⟩ := U.split
  rw [e]; exact List.mem_append.mpr (.inr (.head _))
/-- the ledger behind such a call -/
theorem newsBackTo {h₀ g h h' : Heap} {L L' p : Addr} {o o' : Obj} {m' : Str → Option Value} {ex all tl news : Led} {gg : Obj → Led} (N : News h₀ L h news) (U : UpdF p o news gg) (hg : ∀ b o, h.get? b = some o → b ∉ ex.map (·.1) → g.get? b = some o)
    (F' : Fr g L' h' m') (kN : News h₀ L h' all) (hp : (p, o') ∈ all) (hex : ∀ q ∈ ex, q.1 = p ∨ q ∈ all) (hpx : p ∈ ex.map (·.1)) (hexn : ∀ q ∈ ex, q ∈ news) (htl : ∀ q ∈ tl, q ∈ all) : News h₀ L h' (tl ++ gg o') := by
  obtain ⟨pre, post, e, e', a, b⟩ := U.split
  have other : ∀ q, q ∈ news → q.1 ≠ p → h'.get? q.1 = some q.2 ∧ q.1 ≠ L ∧ h₀.get? q.1 = none := by
    intro q hq hne
    refine ⟨?_, (N q hq).2⟩
    by_cases hb : q.1 ∈ ex.map (·.1)
    · obtain ⟨x, hx, ex⟩ := List.mem_map.mp hb
      rcases hex x hx with h1 | h1
      · exact absurd (ex.symm.trans h1) hne
      · have h2 := (N x (hexn x hx)).1
        have h3 := (N q hq).1
        have h4 := (kN x h1).1
        rw [ex] at h2 h4
        rw [h2] at h3
        rw [h4, h3]
    · exact F'.keep _ _ (hg _ _ (N q hq).1 hb)
  intro q hq
  rcases List.mem_append.mp hq with hq | hq
  · exact kN q (htl q hq)
  · rw [e'] at hq
    rcases List.mem_append.mp hq with hq | hq
    · exact other q (e ▸ List.mem_append.mpr (.inl hq)) (a q hq)
    · rcases List.mem_cons.mp hq with rfl | hq
      · exact kN _ hp
      · exact other q (e ▸ List.mem_append.mpr (.inr (.tail _ hq))) (b q hq)
section
variable {prog : Program} {w : World} {A₀ A : Around} {s : Shared} {base h₀ : Heap} {outer : List Env} {L : Addr} {m mg mb : Str → Option Value} {env : Env} {ex : Led} {K : Frag} {p : Program} {loose : List Str} {mean : ExcName → Option Value}
  {R : Result → Shared → Prop} {name qual : Str} {params : Arguments} {body : List Stmt} {scope : Scope} {dV kV doc pm cdv ct oc : Value} {an od : Option Addr} {osl : Array (Option Value)} {f cc : Addr} {args : Args} {binds : List (Str × Value)}
/-- a method that speaks of super(), entered -/
theorem enterS (B : Below A₀ base outer h₀) (F : Fr h₀ L s.heap m) (X₀ : K.In h₀) (N : News h₀ L s.heap ex) (T : Top p loose mean mg mb h₀) (hA : A.frames = some (env :: outer)) (hf : env.frame = some L) (hke : env.scope.kind = .function)
    (ho : K.lookup f = some ⟨oc, od, .func (ksFn name qual params body scope dV kV doc pm an cdv ct cc), osl⟩) (hcd : codeIn K cdv qual = true) (hroom : A.depth < recursionLimit)
    (hbind : BindsTo s (ksFn name qual params body scope dV kV doc pm an cdv ct cc) args binds) (hloc : ∀ y ∈ binds, scope.names.lookup y.1 = some .local)
    (h : ∀ g L' h₁, (∀ b o, s.heap.get? b = some o → b ∉ ex.map (·.1) → g.get? b = some o) → Fr h₀ L g m → Fr g L' h₁ (fun y => binds.reverse.lookup y) → News g L' h₁ ex → Below A base (env :: outer) g → K.In g → Top p loose mean mg mb g →
      (∀ q ∈ ex, q.1 < L') →
      _root_.PySem.wpAt (model prog w) (A.deeper (ksEnv qual scope L' f cdv cc)) (.func body (ksEnv qual scope L' f cdv cc)) (execs body (ksEnv qual scope L' f cdv cc))
        (fun fl s' => LeaveK h₀ L m g R (match fl with | .ret v => v | _ => .none) s')
        (fun e s' => wpAny (model prog w) (A.deeper (ksEnv qual scope L' f cdv cc)) (leaving (ksEnv qual scope L' f cdv cc) e) (fun _ s'' => R (.error e) s'') (fun e' s'' => R (.error e') s'') s')
        { s with heap := h₁, toks := s.toks + binds.length })
    (hcell : ∀ x ∈ scope.names, x.2 ≠ .cell := by decide) (hco : scope.isCoroutine = false := by rfl) (hgen : scope.isGenerator = false := by rfl) (hk : scope.kind = .function := by rfl) : codeAny (model prog w) A (.call (.ref f) args) R s := by
  obtain ⟨FG, BG, st, lv⟩ := groundX (R := R) B F N hA hf hke
  refine ks_codeAny_call_defAt (fd := ksFn name qual params body scope dV kV doc pm an cdv ct cc) (body := body) (binds := binds) hroom ((X₀.keeps F.keep) _ _ ho) rfl (T.nolimit.keeps F.keep) (codeRec_of (X₀.keeps F.keep) hcd) rfl hbind hcell hloc (fun h₁ hns hk₁ => ?_) hco hgen hk
  have FL : Fr (hideAll s.heap (ex.map (·.1))) s.heap.objs.size h₁ (fun y => binds.reverse.lookup y) := ⟨hns, fun b o e => hk₁ b o (of_hideAll _ e), Nat.le_of_eq (hideAll_size _ _)⟩
  have NL : News (hideAll s.heap (ex.map (·.1))) s.heap.objs.size h₁ ex := fun q hq => ⟨hk₁ _ _ (N q hq).1, Nat.ne_of_lt (Heap.lt_size (N q hq).1), hideAll_none _ (List.mem_map_of_mem hq)⟩
  exact ks_wpAt_mono (h _ s.heap.objs.size h₁ (fun b o e hb => hideAll_get _ e hb) FG FL NL BG (X₀.keeps st) (T.keeps st) (fun q hq => Heap.lt_size (N q hq).1)) (fun fl s' hl => lv _ _ hl) fun _ _ y => y
end
/-- the pile's own dict says nothing of a method -/
def PlainD (od : Obj) : Prop := ∀ name : Str, name ≠ Str.ofString "_initial_size" → shadowIn (some od) name = some false
section
variable {prog : Program} {w : World} {A : Around} {E : Value → Shared → Prop} {s : Shared} {h₀ : Heap} {L : Addr} {m : Str → Option Value} {news news' : Led} {P : Params} {p D : Addr} {vs : List Value} {n : Nat} {od : Obj}
theorem pileOf {h : Heap} (N : News h₀ L h news) (h1 : (p, pileO D vs n) ∈ news) (h2 : (D, od) ∈ news) : PileAt h p D vs n od := ⟨(N _ h1).1, (N _ h2).1⟩
theorem updNews {o o' : Obj} {h' : Heap} (N : News h₀ L s.heap news) (U : Upd p o o' news news') (hs : Heap.SameBut p s.heap h') (ho' : h'.get? p = some o') : News h₀ L h' news' := by
  obtain ⟨pre, post, rfl, rfl, a, b⟩ := U.split
  exact news_set N a b hs ho'
theorem Upd.mem {o o' : Obj} (U : Upd p o o' news news') : (p, o) ∈ news := by
  obtain ⟨pre, post, rfl, _⟩ := U.split
  exact List.mem_append.mpr (.inr (.head _))
theorem pileMeth {name : Str} {f t : Value} {pl : Sem Bool} {Q : Value × List Value → Shared → Prop} (F : Fr h₀ L s.heap m) (X₀ : (K63 P).In h₀) (N : News h₀ L s.heap news) (h1 : (p, pileO D vs n) ∈ news) (h2 : (D, od) ∈ news) (hpd : PlainD od)
    (hf : findIn (K63 P) (.ref 108) name = some (some f)) (ht : typeIn (K63 P) f = some t) (htt : (t != .type "function" && t != .type "method_descriptor" && t != .type "wrapper_descriptor") = false) (hn : name ≠ Str.ofString "_initial_size")
    (h : Q (f, [.ref p]) s) : wpAny (model prog w) A (getMethod (.ref p) name pl) Q E s :=
  method_own (X₀.keeps F.keep) (pileOf N h1 h2).inst (pk_ga P) pk_canon (pk_getattr P) hf ht htt (hpd name hn) h
theorem pileAppend {v : Value} {Q : Value → Shared → Prop} (F : Fr h₀ L s.heap m) (X₀ : (K63 P).In h₀) (N : News h₀ L s.heap news) (h2 : (D, od) ∈ news) (hsz : vs.length ≤ 12) (U : Upd p (pileO D vs n) (pileO D (vs ++ [v]) (n + 1)) news news')
    (h : ∀ h', Fr h₀ L h' m → News h₀ L h' news' → Q .none { s with heap := h' }) : wpAny (model prog w) A (call (.builtin "list.append") [.ref p, v]) Q E s :=
  pile_append (X₀.keeps F.keep) (pileOf N (Upd.mem U) h2) hsz fun h' hs ho' => h h' (F.change hs (N _ (Upd.mem U)).2.1 (N _ (Upd.mem U)).2.2) (updNews N U hs ho')
end
end Mine
end

section
open PySem PySem.W PyProof.Rows PySem.Calls PySem.Builtin PySem.Builtin.List
set_option maxRecDepth 100000
namespace Mine
section
variable {prog : Program} {w : World} {A : Around} {E : Value → Shared → Prop} {s : Shared} {h₀ : Heap} {L : Addr} {m : Str → Option Value} {news news' : Led} {P : Params} {p D so b : Addr} {vs : List Value} {n : Nat} {od : Obj} {pl : Sem Bool}
theorem pile_ne {h : Heap} (X : (K63 P).In h) (I : PileAt h p D vs n od) : p ≠ 108 := by
  obtain ⟨cd, h1, _⟩ := Option.map_eq_some_iff.mp (pk_mro P)
  exact ks_ne X I.inst h1
theorem superLen {Q : Value × List Value → Shared → Prop} (F : Fr h₀ L s.heap m) (X₀ : (K63 P).In h₀) (N : News h₀ L s.heap news) (hso : (so, ks_superObj 108 p 108) ∈ news) (h1 : (p, pileO D vs n) ∈ news) (h2 : (D, od) ∈ news)
    (h : ∀ b h', Fr h₀ L h' m → News h₀ L h' ((b, boundO "method-wrapper" "list.__len__" p) :: news) → (∀ q ∈ news, q.1 < b) → Q (.ref b, []) { s with heap := h', toks := s.toks + 1 }) :
    wpAny (model prog w) A (getMethod (.ref so) (Str.ofString "__len__") pl) Q E s := by
  have X := X₀.keeps F.keep
  have I := pileOf N h1 h2
  have hne := pile_ne X I
  obtain ⟨hh, g, d, t, os⟩ := s
  refine super_meth (bt := "method-wrapper") (N _ hso).1 X (pk_len P) ty_len slot_wd_get.lookup hne (by decide) (fun A t Q' E' hq => get_len (s := ⟨hh, g, d, t, os⟩) X I hq) ?_
  obtain ⟨F', N', l'⟩ := ks_newsPush (s := ⟨hh, g, d, t, os⟩) (o := boundO "method-wrapper" "list.__len__" p) F N rfl (Heap.get?_push_at rfl rfl) (fun b o e => Heap.get?_push_of_some _ e)
  exact h _ _ F' N' l'
theorem superPop {Q : Value × List Value → Shared → Prop} (F : Fr h₀ L s.heap m) (X₀ : (K63 P).In h₀) (N : News h₀ L s.heap news) (hso : (so, ks_superObj 108 p 108) ∈ news) (h1 : (p, pileO D vs n) ∈ news) (h2 : (D, od) ∈ news)
    (h : ∀ b h', Fr h₀ L h' m → News h₀ L h' ((b, boundO "builtin_function_or_method" "list.pop" p) :: news) → (∀ q ∈ news, q.1 < b) → Q (.ref b, []) { s with heap := h', toks := s.toks + 1 }) :
    wpAny (model prog w) A (getMethod (.ref so) (Str.ofString "pop") pl) Q E s := by
  have X := X₀.keeps F.keep
  have I := pileOf N h1 h2
  have hne := pile_ne X I
  obtain ⟨hh, g, d, t, os⟩ := s
  refine super_meth (bt := "builtin_function_or_method") (N _ hso).1 X (pk_pop P) ty_pop slot_md_get.lookup hne (by decide) (fun A t Q' E' hq => get_pop (s := ⟨hh, g, d, t, os⟩) X I hq) ?_
  obtain ⟨F', N', l'⟩ := ks_newsPush (s := ⟨hh, g, d, t, os⟩) (o := boundO "builtin_function_or_method" "list.pop" p) F N rfl (Heap.get?_push_at rfl rfl) (fun b o e => Heap.get?_push_of_some _ e)
  exact h _ _ F' N' l'
theorem plain_len : plainId "list.__len__" = true := by decide +kernel
theorem plain_pop : plainId "list.pop" = true := by decide +kernel
theorem boundLen {Q : Value → Shared → Prop} (F : Fr h₀ L s.heap m) (X₀ : (K63 P).In h₀) (N : News h₀ L s.heap news) (hb : (b, boundO "method-wrapper" "list.__len__" p) ∈ news) (h1 : (p, pileO D vs n) ∈ news) (h2 : (D, od) ∈ news)
    (h : Q (.int vs.length s.toks) { s with toks := s.toks + 1 }) : wpAny (model prog w) A (call (.ref b) []) Q E s :=
  bound_call (N _ hb).1 (by decide) (by decide) plain_len PySem.F.entry_list_len (fun A Q' E' hq => wpAny_of_eq (ck_len p) hq) fun A => body_len (pileOf N h1 h2) h
theorem boundPop {v : Value} {Q : Value → Shared → Prop} (F : Fr h₀ L s.heap m) (X₀ : (K63 P).In h₀) (N : News h₀ L s.heap news) (hb : (b, boundO "builtin_function_or_method" "list.pop" p) ∈ news) (U : Upd p (pileO D (vs ++ [v]) n) (pileO D vs (n + 1)) news news') (h2 : (D, od) ∈ news)
    (hsz : vs.length ≤ 12) (h : ∀ h', Fr h₀ L h' m → News h₀ L h' news' → Q v { s with heap := h' }) : wpAny (model prog w) A (call (.ref b) []) Q E s :=
  bound_call (N _ hb).1 (by decide) (by decide) plain_pop PySem.F.entry_list_pop (fun A Q' E' hq => ck_pop (X₀.keeps F.keep) (pileOf N (Upd.mem U) h2) A Q' E' hq) fun A =>
    body_pop (pileOf N (Upd.mem U) h2) hsz fun h' hs ho' => h h' (F.change hs (N _ (Upd.mem U)).2.1 (N _ (Upd.mem U)).2.2) (updNews N U hs ho')
end
section
variable {M : Model} {A : Around} {E : Value → Shared → Prop} {s : Shared} {h₀ : Heap} {L : Addr} {news : Led} {p b : Addr} {env : Env} {pos : Pos} {Q : Value → Shared → Prop}
theorem keeps_B {bt id : String} (h1 : (Value.type bt != .type "method") = true) (h2 : (Value.type bt == .type "builtin_function_or_method" || Value.type bt == .type "method-wrapper") = true) (h : Heap) (X : h.get? b = some (boundO bt id p)) :
    ∃ k, (k = Keeper.frame ∨ k = Keeper.machine ∨ k = Keeper.boundFrame) ∧ Looks M h (keeperOf (.ref b)) k := by
  refine ⟨.machine, .inr (.inl rfl), ?_⟩
  unfold keeperOf
  refine (Looks.ld (part := none) X).andThen ?_
  dsimp only
  rw [if_pos h1, if_pos h2]
  exact .now
theorem callWithLen (N : News h₀ L s.heap news) (hb : (b, boundO "method-wrapper" "list.__len__" p) ∈ news) (h : wpAny M A (call (.ref b) []) Q E s) : wpAny M A (callWith pos (.ref b) [] (backTo pos (starEach [] env)) []) Q E s :=
  callWith_of rfl (keeps_B (by decide) (by decide)) (evalArgs_nil3 ⟨(N _ hb).1, h⟩)
theorem callWithPop (N : News h₀ L s.heap news) (hb : (b, boundO "builtin_function_or_method" "list.pop" p) ∈ news) (h : wpAny M A (call (.ref b) []) Q E s) : wpAny M A (callWith pos (.ref b) [] (backTo pos (starEach [] env)) []) Q E s :=
  callWith_of rfl (keeps_B (by decide) (by decide)) (evalArgs_nil3 ⟨(N _ hb).1, h⟩)
theorem callWithInit (N : News h₀ L s.heap news) (hb : (b, boundO "method-wrapper" "list.__init__" p) ∈ news) (h : wpAny M A (call (.ref b) []) Q E s) : wpAny M A (callWith pos (.ref b) [] (backTo pos (starEach [] env)) []) Q E s :=
  callWith_of rfl (keeps_B (by decide) (by decide)) (evalArgs_nil3 ⟨(N _ hb).1, h⟩)
end
end Mine
end

section
open PySem PySem.W PyProof.Rows PySem.Calls PySem.Builtin PySem.Builtin.List
set_option maxRecDepth 100000
namespace Mine
section
variable {prog : Program} {w : World} {A : Around} {E : Value → Shared → Prop} {s : Shared} {h₀ : Heap} {L : Addr} {m : Str → Option Value} {news news' : Led} {P : Params} {p D em : Addr} {vs : List Value} {n : Nat} {od : Obj}
abbrev sliceO (i : Nat) (t : Tok) : Obj := { cls := .type "slice", data := .fields #[.int i t, .none, .none] }
theorem pileSub {value : Expr} {lw up : Option Expr} {sp : Pos} {i : Nat} {t : Tok} {Q : Value → Shared → Prop} (F : Fr h₀ L s.heap m) (X₀ : (K63 P).In h₀) (N : News h₀ L s.heap news) (h1 : (p, pileO D vs n) ∈ news) (h2 : (D, od) ∈ news)
    (hi : i ≤ vs.length) (hsz : vs.length ≤ 12) (ht : ∀ r, letTemporaryGo value (.ref p) r = pure ())
    (h : ∀ l h', Fr h₀ L h' m → News h₀ L h' ((l, listOf (vs.drop i).toArray 0) :: news) → (∀ q ∈ news, q.1 < l) → Q (.ref l) { s with heap := h' }) :
    wpAny (model prog w) A (subscriptTail value (.Slice lw up none sp) (.ref p) (.ref s.heap.objs.size)) Q E { s with heap := s.heap.push (sliceO i t) } := by
  have X : (K63 P).In s.heap := X₀.keeps F.keep
  have up : ∀ b o, s.heap.get? b = some o → (s.heap.push (sliceO i t)).get? b = some o := fun b o e => Heap.get?_push_of_some _ e
  have X' : (K63 P).In (s.heap.push (sliceO i t)) := X.keeps up
  have I' : PileAt (s.heap.push (sliceO i t)) p D vs n od := ⟨up _ _ (N _ h1).1, up _ _ (N _ h2).1⟩
  unfold subscriptTail
  refine wpAny_bind ?_
  unfold getitemInPython specialOf
  refine wpAny_bind (wpAny_bind (I'.inst.type.here ((looks_findIn X' (pk_getitem P)).here ?_)))
  dsimp only
  refine wpAny_pure ?_
  show wpAny _ _ (operate [.ref s.heap.objs.size, .ref p] (getItem (.ref p) (.ref s.heap.objs.size)) >>= _) _ _ _
  refine wpAny_bind (wpAny_operating (pile_slice (sl := s.heap.objs.size) (i := i) (t := t) (s := { s with heap := s.heap.push (sliceO i t) }) X' I' (Heap.IsSliceOf.new ..) hi hsz ?_))
  rw [ht]
  refine wpAny_bind (wpAny_pure (wpAny_pure ?_))
  have F₁ := F.push (sliceO i t)
  have N₁ : News h₀ L (s.heap.push (sliceO i t)) news := fun q hq => ⟨up _ _ (N q hq).1, (N q hq).2⟩
  have F₂ := F₁.push (listOf (vs.drop i).toArray 0)
  have N₂ := N₁.push F₁ (listOf (vs.drop i).toArray 0)
  exact h _ _ F₂ N₂ fun q hq => Heap.lt_size (N₁ q hq).1
theorem updFNews {o o' : Obj} {h' : Heap} {gg : Obj → Led} (N : News h₀ L s.heap news) (U : UpdF p o news gg) (hs : Heap.SameBut p s.heap h') (ho' : h'.get? p = some o') : News h₀ L h' (gg o') := by
  obtain ⟨pre, post, rfl, e', a, b⟩ := U.split
  rw [e']
  exact news_set N a b hs ho'
theorem pileCut {i : Nat} {t : Tok} {ne : Nat} {gg : Obj → Led} {Q : Unit → Shared → Prop} (F : Fr h₀ L s.heap m) (X₀ : (K63 P).In h₀) (N : News h₀ L s.heap news) (U : UpdF p (pileO D vs n) news gg) (h2 : (D, od) ∈ news)
    (hem : (em, listOf #[] ne) ∈ news) (hne : @Ne Nat p em) (hi : i ≤ vs.length) (hsz : vs.length ≤ 12)
    (h : ∀ h' n', Fr h₀ L h' m → News h₀ L h' (gg (pileO D (vs.take i) n')) → Q () { s with heap := h' }) :
    wpAny (model prog w) A (setItem (.ref p) (.ref s.heap.objs.size) (.ref em)) Q E { s with heap := s.heap.push (sliceO i t) } := by
  have h1 := UpdF.mem U
  have X : (K63 P).In s.heap := X₀.keeps F.keep
  have up : ∀ b o, s.heap.get? b = some o → (s.heap.push (sliceO i t)).get? b = some o := fun b o e => Heap.get?_push_of_some _ e
  have X' : (K63 P).In (s.heap.push (sliceO i t)) := X.keeps up
  have I' : PileAt (s.heap.push (sliceO i t)) p D vs n od := ⟨up _ _ (N _ h1).1, up _ _ (N _ h2).1⟩
  have F₁ := F.push (sliceO i t)
  have N₁ : News h₀ L (s.heap.push (sliceO i t)) news := fun q hq => ⟨up _ _ (N q hq).1, (N q hq).2⟩
  refine pile_cut (s := { s with heap := s.heap.push (sliceO i t) }) X' I' (Heap.IsSliceOf.new ..) (N₁ _ hem).1 hne hi hsz fun h' n' hs ho' => ?_
  exact h h' n' (F₁.change hs (N _ h1).2.1 (N _ h1).2.2) (updFNews (s := { s with heap := s.heap.push (sliceO i t) }) N₁ U hs ho')
end
end Mine
end

section
open PySem PySem.W PyProof.Rows PySem.Calls PySem.Builtin PySem.Builtin.List
set_option maxRecDepth 100000
set_option maxHeartbeats 4000000
namespace Mine
theorem pk_made (p : Params) : ∃ oc od cd sl, (K63 p).lookup 108 = some ⟨oc, od, .cls cd, sl⟩ ∧ cd.abstract = false ∧ cd.hasDel = false ∧ cd.hasDict = true ∧ cd.mro = [.ref 108, .type "list", .type "object"] ∧ (sl.toList[4]?).join = some (.builtin "list.__new__") ∧ cd.collection = none ∧ cd.slotNames = [] :=
  ⟨_, _, _, _, rfl, rfl, rfl, rfl, rfl, rfl, rfl, rfl⟩
theorem pk_call (p : Params) : specialIn (K63 p) (.ref 108) "__call__" = some (some (.builtin "type.__call__")) := by kernel_rfl
theorem pk_istype (p : Params) : instIn (K63 p) (.ref 108) (.type "type") = some true := by kernel_rfl
theorem pk_self (p : Params) : mroIn (K63 p) 108 (.ref 108) = some true := by kernel_rfl
theorem pk_initfn (p : Params) : findIn (K63 p) (.ref 108) "__init__" = some (some (.ref 45)) := by kernel_rfl
theorem pk_ty45 (p : Params) : typeIn (K63 p) (.ref 45) = some (.type "function") := by kernel_rfl
section
variable {prog : Program} {w : World} {M : Model} {A : Around} {h : Heap} {g : Array GenState} {d : Drawn} {t : Nat} {os : OsState} {P : Params} {R : Result → Shared → Prop}
theorem made_looks (X : (K63 P).In h) : Looks M h (Bind.madeBy (.ref 108)) (some "list.__new__") := by
  obtain ⟨oc, od, cd, sl, ho, e1, e2, e3, hm, e5, _⟩ := pk_made P
  have hc : clsIn (K63 P) 108 = some cd := by unfold clsIn; rw [ho]
  have hmL : Looks M h (mroOf (.ref 108)) cd.mro := (looks_clsIn X hc).andThen .now
  intro A Q E s k q
  unfold Bind.madeBy
  refine wpAny_bind (hmL A _ E s k ?_)
  rw [hm, List.forIn_cons]
  refine wpAny_bind (wpAny_bind (wpAny_bind (wpAny_bind (wpAny_loadPart (k _ _ (X _ _ ho)) (wpAny_pure ?_)))))
  dsimp only
  rw [← Array.getElem?_toList, e5]
  exact wpAny_pure (wpAny_pure (wpAny_pure q))
theorem base_looks (X : (K63 P).In h) : Looks M h (Bind.staticBase (.ref 108)) (.ref 108) := by
  obtain ⟨oc, od, cd, sl, ho, e1, e2, e3, hm, e5, _⟩ := pk_made P
  have hc : clsIn (K63 P) 108 = some cd := by unfold clsIn; rw [ho]
  have hmL : Looks M h (mroOf (.ref 108)) cd.mro := (looks_clsIn X hc).andThen .now
  intro A Q E s k q
  unfold Bind.staticBase
  refine wpAny_bind (hmL A _ E s k ?_)
  rw [hm, List.forIn_cons]
  exact wpAny_bind (wpAny_bind (wpAny_bind (made_looks X A _ E s k (wpAny_pure (wpAny_pure (wpAny_pure q))))))
theorem newCall_row : Manifest.signature? "list.__new__" = none ∨ (Manifest.signature? "list.__new__").isSome = true := by
  cases Manifest.signature? "list.__new__" with | none => exact .inl rfl | some _ => exact .inr rfl
theorem ck_new (p : Params) : ((Manifest.signature? "list.__new__").map fun sig => Bind.checkArgs "list.__new__" sig ⟨[.ref 108], []⟩).getD (pure ()) = pure () := by kernel_rfl
theorem new_pile (X : (K63 P).In h) (hq : R (.ok (.ret (.ref (h.objs.size + 1)))) ⟨(h.push emptyDict).push (pileO h.objs.size [] 0), g, d, t, os⟩) :
    codeAny (model prog w) A (.call (.builtin "list.__new__") ⟨[.ref 108], []⟩) R ⟨h, g, d, t, os⟩ := by
  obtain ⟨oc, od, cd, sl, ho, e1, e2, e3, hm, e5, e6, e7⟩ := pk_made P
  have hC := X _ _ ho
  have sub : Looks (model prog w) h (isSubtype (.ref 108) (.type "list")) true := looks_mroIn X (pk_sub P)
  have made := made_looks (M := model prog w) X
  have base := base_looks (M := model prog w) X
  refine codeAny_of_tree ?_
  show wpAny _ A.in1 (do checkBuiltinCall "list.__new__" ⟨[.ref 108], []⟩; again (.builtin "list.__new__" ⟨[.ref 108], []⟩)) _ _ _
  have ck : ∀ {A' : Around} {Q' : Unit → Shared → Prop} {E' : Value → Shared → Prop}, Q' () ⟨h, g, d, t, os⟩ → wpAny (model prog w) A' (checkBuiltinCall "list.__new__" ⟨[.ref 108], []⟩) Q' E' ⟨h, g, d, t, os⟩ := by
    intro A' Q' E' q
    have hk : builtinKind "list.__new__" = some .builtinFn := by decide +kernel
    have hs : splitId "list.__new__" = some ("list", "__new__") := by decide +kernel
    simp only [checkBuiltinCall, hk, hs]
    rw [if_pos (by decide)]
    refine wpAny_bind (ks_wpAny_isType_cls hC rfl ?_)
    rw [if_neg (by decide)]
    refine wpAny_bind (sub.at ?_)
    rw [if_neg (by decide)]
    refine wpAny_bind (base.at (wpAny_bind (made.at ?_)))
    dsimp only
    rw [if_neg (by decide)]
    have ha := ck_new P
    cases hsg : Manifest.signature? "list.__new__" with
    | none => exact wpAny_pure q
    | some sig =>
      rw [hsg] at ha
      exact wpAny_of_eq ha q
  refine wpAny_bind (ck (wpAny_pure ⟨plainId_quiet F.plain_list_new _, codeAny_builtin_stack F.entry_list_new rfl fun p st => ?_⟩))
  rw [Around.under_plainId F.plain_list_new _]
  have hown := owner_list_new
  simp only [hown]
  refine wpAny_bind (ks_wpAny_isType_cls hC rfl ?_)
  rw [if_neg (by decide)]
  refine wpAny_bind (sub.at ?_)
  rw [if_neg (by decide)]
  refine wpAny_bind (wpAny_pure ?_)
  show wpAny _ _ (newDict >>= _) _ _ _
  unfold newDict
  refine wpAny_bind (wpAny_newObj_type ?_)
  show wpAny _ _ (newObjAsIs _ _ _ >>= _) _ _ _
  unfold newObjAsIs classHasDel
  refine wpAny_bind (wpAny_bind (wpAny_alloc (wpAny_bind (wpAny_bind (wpAny_load (Heap.get?_push_of_some _ (Heap.get?_push_of_some _ hC)) (wpAny_pure ?_))))))
  rw [e2]
  refine wpAny_pure (wpAny_pure ?_)
  show R _ _
  rw [Heap.size_push]
  exact hq
end
theorem pk_setattr (p : Params) : findIn (K63 p) (.ref 108) "__setattr__" = some (some (.builtin "object.__setattr__")) := by kernel_rfl
theorem pk_sizeattr (p : Params) : findIn (K63 p) (.ref 108) "_initial_size" = some none := by kernel_rfl
theorem pk_object (p : Params) : mroIn (K63 p) 108 (.type "object") = some true := by kernel_rfl
theorem passes_list (self : Value) : ObjectAttr.refuseIfOverridden self "__setattr__" = ObjectAttr.refuseIfOverridden self "__setattr__" := rfl
theorem refuse_pile (self : Value) : refuseLoop self "__setattr__" [.ref 108, .type "list", .type "object"] = pure () := by
  rw [refuseLoop_ref]; kernel_rfl
section
variable {prog : Program} {w : World} {A : Around} {E : Value → Shared → Prop} {s : Shared} {h₀ : Heap} {L : Addr} {m : Str → Option Value} {news : Led} {p D : Addr} {R : Result → Shared → Prop}
abbrev sSize : Str := Str.ofString "_initial_size"
abbrev sizeD (w : World) (tk : Tok) (v : Value) : Obj := dictOf [⟨PyData.keyHash w.params sSize, .str sSize tk, v⟩] (putN sSize [] 0)
theorem sizeD_eq (w : World) (tk : Tok) (v : Value) : Obj.putName sSize (PyData.keyHash w.params sSize) (.str sSize tk) v (dictOf [] 0) = sizeD w tk v := putName_dict ..
theorem pile_store {tk : Tok} {v : Value} (X : (K63 w.params).In s.heap) (I : PileAt s.heap p D [] 0 (dictOf [] 0))
    (h : ∀ h', Heap.SameBut D s.heap h' → h'.get? D = some (sizeD w s.toks v) → R (.ok (.ret .none)) { s with heap := h', toks := s.toks + 1 }) :
    codeAny (model prog w) A (.call (.builtin "object.__setattr__") ⟨[.ref p, .str sSize tk, v], []⟩) R s := by
  have SF := PySem.F.store_object
  obtain ⟨oc, od, cd, sl, ho, e1, e2, e3, hm, e5, e6, e7⟩ := pk_made w.params
  have hc : clsIn (K63 w.params) 108 = some cd := by unfold clsIn; rw [ho]
  have sub : Looks (model prog w) s.heap (isInstance (.ref p) (.type "object")) true := I.inst.type.andThen (looks_mroIn X (pk_object w.params))
  refine codeAny_call_builtin SF.slot.plain SF.entry (@check_slot (model prog w) _ _ s "object.__setattr__" "object" "__setattr__" (.ref p) [.str sSize tk, v] [] _ SF.kind SF.split sub (SF.args (.ref p) (.str sSize tk) v) ?_)
  have hmL : Looks (model prog w) s.heap (mroOf (.ref 108)) [.ref 108, .type "list", .type "object"] := hm ▸ (looks_clsIn X hc).andThen .now
  rw [osa_eq, refuse_eq]
  refine wpAny_bind (wpAny_bind (I.inst.type.here (wpAny_bind (hmL.here ?_))))
  rw [refuse_pile]
  refine wpAny_pure (wpAny_bind (I.inst.type.here (wpAny_bind ((looks_findIn X (pk_sizeattr w.params)).here (wpAny_bind ?_)))))
  refine wpAny_pure ?_
  refine wpAny_bind (wpAny_pure (wpAny_bind (wpAny_bind (wpAny_loadPart I.at_ (wpAny_bind ((looks_clsIn X hc).here ?_))))))
  rw [e3]
  refine wpAny_pure (a := some D) (wpAny_bind (wpAny_pure (wpAny_bind ?_)))
  unfold nsSet
  refine wpAny_bind (wpAny_bind (wpAny_askSetting (wpAny_pure (wpAny_bind (wpAny_mkText (wpAny_bind (wpAny_loadPart I.dict ?_)))))))
  dsimp only
  rw [aRefKeyMayBeTheName_at]
  have c : (!([] : List DictEntry).toArray.any (·.key.isStr sSize) && ([] : List DictEntry).toArray.any (·.refKey)) = false := by simp
  rw [c, if_neg (by decide)]
  have D' : (s.heap.update D (Obj.putName sSize (PyData.keyHash w.params sSize) (.str sSize s.toks) v)).get? D = some (sizeD w s.toks v) := by
    rw [Heap.get?_update_self _ I.dict (by rw [sizeD_eq]; rfl), sizeD_eq]
  refine wpAny_updatePart I.dict ?_
  refine wpAny_bind (wpAny_lookBehind D' (pastItsLine_dict (by rw [List.size_toArray, sizeLine_eq]; simp)) ?_)
  exact wpAny_pure (h _ (Heap.SameBut.update ..) D')
theorem sizeD_plain (w : World) (tk : Tok) (v : Value) : PlainD (sizeD w tk v) := by
  intro name hn
  have e1 : (Value.str sSize tk).isStr name = false := by
    have : (sSize == name) = false := by rw [beq_eq_false_iff_ne]; exact fun e => hn e.symm
    simpa [Value.isStr] using this
  show (lookIn name (sizeD w tk v)).map _ = _
  unfold lookIn
  simp [e1, DictEntry.refKey]
end
section
variable {prog : Program} {w : World} {A : Around} {h : Heap} {g : Array GenState} {d : Drawn} {t : Nat} {os : OsState} {P : Params} {R : Result → Shared → Prop}
theorem make_pile (X : (K63 P).In h)
    (hq : codeAny (model prog w) (A.under (.builtin "type.__call__" ⟨[.ref 108], []⟩)) (.call (.ref 45) ⟨[.ref (h.objs.size + 1)], []⟩) (InitBack (h.objs.size + 1) R) ⟨(h.push emptyDict).push (pileO h.objs.size [] 0), g, d, t, os⟩) :
    codeAny (model prog w) A (.call (.ref 108) ⟨[], []⟩) R ⟨h, g, d, t, os⟩ := by
  obtain ⟨oc, od, cd, sl, ho, e1, e2, e3, hm, e5, e6, e7⟩ := pk_made P
  have hC := X _ _ ho
  have hc : clsIn (K63 P) 108 = some cd := by unfold clsIn; rw [ho]
  have made := made_looks (M := model prog w) X
  have call : Looks (model prog w) h (specialOf (.ref 108) "__call__") (some (.builtin "type.__call__")) := looks_specialIn X (pk_call P)
  have typ : Looks (model prog w) h (isInstance (.ref 108) (.type "type")) true := looks_instIn X (pk_istype P)
  refine codeAny_of_tree ?_
  show wpAny _ _ (callAny (.ref 108) _) _ _ _
  refine nd_load hC ?_
  show wpAny _ _ (callAny.viaDunder (.ref 108) _) _ _ _
  unfold callAny.viaDunder
  refine wpAny_bind (call.at ?_)
  dsimp only
  rw [tc_bind]
  refine wpAny_bind (wpAny_pure (wpAny_bind (wpAny_pure ?_)))
  refine wpAny_pure (a := Fin.again (.call (.builtin "type.__call__") ⟨[.ref 108], []⟩)) (And.intro rfl ?_)
  refine codeAny_call_builtin_at (Code.quiet_builtin _ (by decide +kernel)) entry_typeCall (check_slot tc_kind tc_split typ (tc_args _ _ _) ?_)
  unfold Builtin.«type.__call__»
  have hmL : Looks (model prog w) h (mroOf (.ref 108)) [.ref 108, .type "list", .type "object"] := hm ▸ (((Looks.ld (part := none) hC).andThen .now).andThen .now)
  repeat (first | simp only [List.isEmpty_cons, Bool.false_eq_true, if_false] | with_reducible refine wpAny_call ?_ | lk)
  refine new_pile X ?_
  have k : ∀ b o, h.get? b = some o → ((h.push emptyDict).push (pileO h.objs.size [] 0)).get? b = some o := fun b o e => Heap.get?_push_of_some _ (Heap.get?_push_of_some _ e)
  have hx : ((h.push emptyDict).push (pileO h.objs.size [] 0)).get? (h.objs.size + 1) = some (pileO h.objs.size [] 0) := by heap_get
  have t1 : Looks (model prog w) ((h.push emptyDict).push (pileO h.objs.size [] 0)) (typeOf (.ref (h.objs.size + 1))) (.ref 108) := (Looks.ld hx).andThen .now
  have self1 : Looks (model prog w) ((h.push emptyDict).push (pileO h.objs.size [] 0)) (isSubtype (.ref 108) (.ref 108)) true := (looks_mroIn X (pk_self P)).keeps k
  have i1 : Looks (model prog w) ((h.push emptyDict).push (pileO h.objs.size [] 0)) (typeLookup (.ref 108) "__init__") (some (.ref 45)) := (looks_findIn X (pk_initfn P)).keeps k
  have b1 : Looks (model prog w) ((h.push emptyDict).push (pileO h.objs.size [] 0)) (bindSpecial (.ref 45) (.ref (h.objs.size + 1))) (.ref 45, [.ref (h.objs.size + 1)]) := (bind_fn X _ (pk_ty45 P)).keeps k
  unfold isInstance callSpecial? specialOf
  repeat (first | with_reducible refine wpAny_call ?_ | lk)
  refine codeAny_mono hq fun r s' z => ?_
  rcases r with e | (v | _ | _ | _) <;> first | exact z | exact z.elim | skip
  obtain ⟨rfl, z⟩ := z
  exact wpAny_pure (wpAny_pure z)
end
end Mine
end

section
open PySem PySem.W PyProof.Rows PySem.Calls PySem.Builtin PySem.Builtin.List
set_option maxRecDepth 100000
namespace Mine
section
variable {prog : Program} {w : World} {A : Around} {E : Value → Shared → Prop} {s : Shared} {h₀ : Heap} {L : Addr} {m : Str → Option Value} {news news' : Led} {P : Params} {p D so b : Addr} {vs : List Value} {n : Nat} {od : Obj} {pl : Sem Bool}
theorem superInit {Q : Value × List Value → Shared → Prop} (F : Fr h₀ L s.heap m) (X₀ : (K63 P).In h₀) (N : News h₀ L s.heap news) (hso : (so, ks_superObj 108 p 108) ∈ news) (h1 : (p, pileO D vs n) ∈ news) (h2 : (D, od) ∈ news)
    (h : ∀ b h', Fr h₀ L h' m → News h₀ L h' ((b, boundO "method-wrapper" "list.__init__" p) :: news) → (∀ q ∈ news, q.1 < b) → Q (.ref b, []) { s with heap := h', toks := s.toks + 1 }) :
    wpAny (model prog w) A (getMethod (.ref so) (Str.ofString "__init__") pl) Q E s := by
  have X := X₀.keeps F.keep
  have I := pileOf N h1 h2
  have hne := pile_ne X I
  obtain ⟨hh, g, d, t, os⟩ := s
  refine super_meth (bt := "method-wrapper") (N _ hso).1 X (pk_init P) ty_init slot_wd_get.lookup hne (by decide) (fun A t Q' E' hq => get_init (s := ⟨hh, g, d, t, os⟩) X I hq) ?_
  obtain ⟨F', N', l'⟩ := ks_newsPush (s := ⟨hh, g, d, t, os⟩) (o := boundO "method-wrapper" "list.__init__" p) F N rfl (Heap.get?_push_at rfl rfl) (fun b o e => Heap.get?_push_of_some _ e)
  exact h _ _ F' N' l'
theorem body_init {Q : Value → Shared → Prop} (I : PileAt s.heap p D [] n od)
    (h : ∀ h', Heap.SameBut p s.heap h' → h'.get? p = some (pileO D [] n) → Q .none { s with heap := h' }) :
    wpAny (model prog w) A (Builtin.«list.__init__» ⟨[.ref p], []⟩) (fun fin s' => ∃ r, fin = .done (.ret r) ∧ Q r s') E s := by
  show wpAny _ _ (listItems (.ref p) >>= _) _ _ s
  unfold listItems
  refine wpAny_bind (wpAny_bind (wpAny_seqItems I.at_ rfl (wpAny_pure ?_)))
  show wpAny _ _ (updateSeq p (fun _ => #[]) >>= _) _ _ s
  refine wpAny_bind (wpAny_updateSeq I.at_ rfl (wpAny_bind (PySem.wpAny_letGo (wpAny_pure ⟨.none, rfl, h _ (Heap.SameBut.update ..) ?_⟩))) (by rw [sizeLine_eq]; decide) (by rw [sizeLine_eq]; decide))
  rw [Heap.get?_update_self _ I.at_ rfl]
  rfl
theorem plain_init : plainId "list.__init__" = true := by decide +kernel
theorem boundInit {Q : Value → Shared → Prop} (F : Fr h₀ L s.heap m) (X₀ : (K63 P).In h₀) (N : News h₀ L s.heap news) (hb : (b, boundO "method-wrapper" "list.__init__" p) ∈ news) (U : Upd p (pileO D [] n) (pileO D [] n) news news') (h2 : (D, od) ∈ news)
    (h : ∀ h', Fr h₀ L h' m → News h₀ L h' news' → Q .none { s with heap := h' }) : wpAny (model prog w) A (call (.ref b) []) Q E s :=
  bound_call (N _ hb).1 (by decide) (by decide) plain_init PySem.F.entry_list_init (fun A Q' E' hq => wpAny_of_eq (ck_init p) hq) fun A =>
    body_init (pileOf N (Upd.mem U) h2) fun h' hs ho' => h h' (F.change hs (N _ (Upd.mem U)).2.1 (N _ (Upd.mem U)).2.2) (updNews N U hs ho')
theorem pileSize {v : Value} {Q : Unit → Shared → Prop} {gg : Obj → Led} (F : Fr h₀ L s.heap m) (X₀ : (K63 w.params).In h₀) (N : News h₀ L s.heap news) (h1 : (p, pileO D [] 0) ∈ news) (U : UpdF D (dictOf [] 0) news gg)
    (h : ∀ h' od, PlainD od → Fr h₀ L h' m → News h₀ L h' (gg od) → Q () { s with heap := h', toks := s.toks + 2 }) : wpAny (model prog w) A (setAttr (.ref p) sSize v) Q E s := by
  have X := X₀.keeps F.keep
  have I := pileOf N h1 (UpdF.mem U)
  refine set_plain X I.inst (pk_setattr w.params) (pile_store (s := { s with toks := s.toks + 1 }) X I fun h' hs ho' => ?_)
  exact h h' _ (sizeD_plain _ _ _) (F.change hs (N _ (UpdF.mem U)).2.1 (N _ (UpdF.mem U)).2.2) (updFNews N U hs ho')
/-- the class called: a fresh pile -/
theorem pileNew {Q : Value → Shared → Prop} (F : Fr h₀ L s.heap m) (X₀ : (K63 P).In h₀) (N : News h₀ L s.heap news)
    (h : ∀ x dx h', Fr h₀ L h' m → News h₀ L h' ((x, pileO dx [] 0) :: (dx, dictOf [] 0) :: news) → (∀ p ∈ news, p.1 < dx) → @LT.lt Nat _ dx x →
      codeAny (model prog w) (A.under (.builtin "type.__call__" ⟨[.ref 108], []⟩)) (.call (.ref 45) ⟨[.ref x], []⟩) (InitBack x fun r s' => match r with | .ok (.ret v) => Q v s' | .ok _ => False | .error e => E e s') { s with heap := h' }) :
    wpAny (model prog w) A (call (.ref 108) [] []) Q E s := by
  obtain ⟨hh, g, d, t, os⟩ := s
  refine wpAny_call (make_pile (X₀.keeps F.keep) ?_)
  have N' := (N.push F emptyDict).push (F.push _) (pileO hh.objs.size [] 0)
  rw [Heap.size_push] at N'
  exact h _ hh.objs.size _ ((F.push _).push _) N' (fun p hp => Heap.lt_size (N p hp).1) (Nat.lt_succ_self _)
end
end Mine
end

section
open PySem PySem.W PyProof.Rows
set_option Elab.async false
set_option maxRecDepth 100000
set_option maxHeartbeats 2000000
namespace Mine
section
theorem push_does (w : World) (mean : ExcName → Option Value) (mg mb : Str → Option Value) (p D : Addr) (vs : List Value) (n : Nat) (od : Obj) (x y : Str) (tx ty : Tok) (hod : PlainD od) (hlen : vs.length ≤ 12) (hpd : @Ne Nat p D) :
    DoesTo w mean mg mb 52 [.ref p, .str x tx, .str y ty] p (pileO D vs n) [(D, od)] 2
      (fun tl r o' => ∃ t nt n', o' = pileO D (vs ++ [.ref t]) n' ∧ (t, tupOf [.str x tx, .str y ty] nt) ∈ tl) := by
  unfold DoesTo
  k_fill
  intro dp un gd cn cs a ccd cl outer A₀ base h₀ L m news gg s Q E B F X N T hk hU hex hd hu hret
  have hfull := N
  have hpm := UpdF.mem hU
  have hN : News h₀ L s.heap ((p, pileO D vs n) :: [(D, od)]) := fun q hq => N q ((List.forall_mem_cons.mpr ⟨hpm, hex⟩) q hq)
  clear N
  refine wpAny_call ?_
  k_dflt (refine' enterP (binds := [(Str.ofString "self", .ref p), (Str.ofString "fws", .str x tx), (Str.ofString "string", .str y ty)]) ?k1 ?k2 ?k3 hN ?k5 ?kA ?kF ?kK ?k6 ?k7 ?k8 ?k9 ?kB ?_ ?c2 ?c3 ?c4 ?c5; (case kA => exact rfl); (case kF => exact rfl); (case kK => assumption); (case k1 => k_asm); (case k2 => k_asm); (case k3 => k_asm); (case k5 => k_asm); (case k6 => k_is); (case k7 => k_is); (case k8 => ktr_room); (case k9 => first | exact BindsTo.of_eq rfl | exact binds_K (by k_in) rfl (by k_is) rfl rfl rfl); (case c5 => decide); (case kB => exact locs rfl); (case c2 => exact rfl); (case c3 => exact rfl); (case c4 => exact rfl); k_whole; intro g' L' h' tk' hg' FG' F' N' B' X' T' l1; (try dsimp only); (try k_fold))
  (try k_lt l1)
  repeat' (first | (k_unfold; (try dsimp only)) | (k_end; wrow_close) | ((with_reducible show wpAny _ _ (call (Value.builtin "list.append") _) _ _ _); (with_reducible (k_here; with_unfolding_all (refine' pileAppend (P := _) ?zqh1 ?zqh2 ?zqh3 ?zqh4 ?zqh5 ?zqh6 ?_; (case zqh1 => k_asm); (case zqh2 => k_asm); (case zqh3 => k_asm); (case zqh6 => k_upd); (case zqh4 => k_mem); (case zqh5 => assumption); intro h9 F9 N9))); (first | (with_reducible show wpAny _ _ (subscriptTail _ _ _ (Value.ref _)) _ _ _) | (with_reducible show wpAny _ _ (setItem _ (Value.ref _) _) _ _ _) | dsimp only | skip)) | ((with_reducible show wpAny _ _ (getMethod (Value.ref _) _ _) _ _ _); (with_reducible (k_here; with_unfolding_all (refine' pileMeth (P := _) (f := .builtin "list.append") (t := .type "method_descriptor") ?zqh1 ?zqh2 ?zqh3 ?zqh4 ?zqh5 ?zqh6 ?zqh7 ?zqh8 ?zqh9 ?zqh10 ?_; (case zqh1 => k_asm); (case zqh2 => k_asm); (case zqh3 => k_asm); (case zqh4 => k_mem); (case zqh5 => k_mem); (case zqh6 => assumption); (case zqh7 => exact pk_append _); (case zqh8 => kernel_rfl); (case zqh9 => decide +kernel); (case zqh10 => decide +kernel)))); (first | (with_reducible show wpAny _ _ (subscriptTail _ _ _ (Value.ref _)) _ _ _) | (with_reducible show wpAny _ _ (setItem _ (Value.ref _) _) _ _ _) | dsimp only | skip)) | (walk1; (first | (with_reducible show wpAny _ _ (subscriptTail _ _ _ (Value.ref _)) _ _ _) | (with_reducible show wpAny _ _ (setItem _ (Value.ref _) _) _ _ _) | dsimp only | skip)) | (dsimp only; walk1) | (leave1; (try dsimp only)) | fail "no step")
  (refine' hret _ [(_, _)] _ _ _ ?e0 (newsBackTo hfull hU hg' (by assumption) (by assumption) ?e5 ?e1 (List.mem_cons_self ..) (List.forall_mem_cons.mpr ⟨hpm, hex⟩) ?e2) (apartBack hfull hg' (by assumption) ?e3 ?e4) ⟨_, _, _, rfl, List.Mem.head _⟩; (case e0 => k_asm); (case e5 => k_mem); (case e1 => (repeat' (first | exact List.forall_mem_nil _ | refine List.forall_mem_cons.mpr ⟨by first | exact Or.inl rfl | exact Or.inr (by k_mem), ?_⟩))); (case e2 => (repeat' (first | exact List.forall_mem_nil _ | refine List.forall_mem_cons.mpr ⟨by k_mem, ?_⟩))); (case e3 => (repeat' (first | exact List.forall_mem_nil _ | refine List.forall_mem_cons.mpr ⟨by k_mem, ?_⟩))); (case e4 => (repeat' (first | exact List.forall_mem_nil _ | refine List.forall_mem_cons.mpr ⟨by first | exact neSub (by assumption) (by repeat' (first | exact List.forall_mem_nil _ | refine List.forall_mem_cons.mpr ⟨by k_mem, ?_⟩)) | k_all, ?_⟩))))
end
end Mine
end

section
open PySem PySem.W PyProof.Rows
set_option Elab.async false
set_option maxRecDepth 100000
set_option maxHeartbeats 2000000
namespace Mine
section
theorem count_pile (w : World) (mean : ExcName → Option Value) (mg mb : Str → Option Value) (p D : Addr) (vs : List Value) (n : Nat) (od : Obj) :
    Does w mean mg mb 105 [.ref p] [(p, pileO D vs n), (D, od)] 1 (fun tl r => ∃ t, r = .int vs.length t) := by
  unfold Does
  k_fill
  intro dp un gd cn cs a ccd cl outer A₀ base h₀ L m news s Q E B F X N T hk hex hd hu hret
  have hfull := N
  have hN : News h₀ L s.heap _ := fun p hp => N p (hex p hp)
  clear N
  refine wpAny_call ?_
  k_dflt (refine' enterS (binds := [(Str.ofString "self", .ref p)]) ?k1 ?k2 ?k3 hN ?k5 ?kA ?kF ?kK ?k6 ?k7 ?k8 ?k9 ?kB ?_ ?c1 ?c2 ?c3 ?c4; (case kA => exact rfl); (case kF => exact rfl); (case kK => assumption); (case k1 => k_asm); (case k2 => k_asm); (case k3 => k_asm); (case k5 => k_asm); (case k6 => k_is); (case k7 => k_is); (case k8 => ktr_room); (case k9 => first | exact BindsTo.of_eq rfl | exact binds_K (by k_in) rfl (by k_is) rfl rfl rfl); (case kB => exact locs rfl); (case c1 => decide); (case c2 => exact rfl); (case c3 => exact rfl); (case c4 => exact rfl); k_whole; intro g' L' h' hg' FG' F' N' B' X' T' l1; (try dsimp only); (try k_fold))
  (try k_lt l1)
  repeat' (first | (k_unfold; (try dsimp only)) | (k_end; wrow_close) | ((with_reducible show wpAny _ _ (call (Value.ref _) _) _ _ _); (with_reducible (k_here; with_unfolding_all (refine' boundLen (P := _) ?zqh1 ?zqh2 ?zqh3 ?zqh4 ?zqh5 ?zqh6 ?_; (case zqh1 => k_asm); (case zqh2 => k_asm); (case zqh3 => k_asm); (case zqh4 => k_mem); (case zqh5 => k_mem); (case zqh6 => k_mem)))); (first | (with_reducible show wpAny _ _ (subscriptTail _ _ _ (Value.ref _)) _ _ _) | (with_reducible show wpAny _ _ (setItem _ (Value.ref _) _) _ _ _) | dsimp only | skip)) | ((with_reducible show wpAny _ _ (callWith _ (Value.ref _) _ _ _) _ _ _); (with_reducible (k_here; with_unfolding_all (refine' callWithLen ?zqh1 ?zqh2 ?_; (case zqh1 => k_asm); (case zqh2 => k_mem)))); (first | (with_reducible show wpAny _ _ (subscriptTail _ _ _ (Value.ref _)) _ _ _) | (with_reducible show wpAny _ _ (setItem _ (Value.ref _) _) _ _ _) | dsimp only | skip)) | ((with_reducible show wpAny _ _ (getMethod (Value.ref _) _ _) _ _ _); (with_reducible (k_here; with_unfolding_all (refine' superLen (P := _) ?zqh1 ?zqh2 ?zqh3 ?zqh4 ?zqh5 ?zqh6 ?_; (case zqh1 => k_asm); (case zqh2 => k_asm); (case zqh3 => k_asm); (case zqh4 => k_mem); (case zqh5 => k_mem); (case zqh6 => k_mem); intro b9 h9 F9 N9 l9; (try k_lt l9)))); (first | (with_reducible show wpAny _ _ (subscriptTail _ _ _ (Value.ref _)) _ _ _) | (with_reducible show wpAny _ _ (setItem _ (Value.ref _) _) _ _ _) | dsimp only | skip)) | ((with_reducible show PySem.wpAt _ _ _ _ _ _ _); (with_reducible (ks_step "attributeBase Call"; k_here; k_dflt (refine ks_node (by k_asm) (by k_asm) (by k_asm) (by k_asm) (by k_is) (by rfl) (by rfl) (PileAt.inst (pileOf (by k_asm) (by k_mem) (by k_mem))) (by k_is) (by rfl) (by first | rfl | decide +kernel) (by k_is) (by k_is) (by k_is) (by k_is) (by decide) (by rfl) (by rfl) (by rfl) (by rfl) (by decide +kernel) (by first | boot_by_name | rfl | kernel_rfl) ?_; intro so9 h9 F9 N9 l9; (try k_lt l9)))); (first | (with_reducible show wpAny _ _ (subscriptTail _ _ _ (Value.ref _)) _ _ _) | (with_reducible show wpAny _ _ (setItem _ (Value.ref _) _) _ _ _) | dsimp only | skip)) | (walk1; (first | (with_reducible show wpAny _ _ (subscriptTail _ _ _ (Value.ref _)) _ _ _) | (with_reducible show wpAny _ _ (setItem _ (Value.ref _) _) _ _ _) | dsimp only | skip)) | (dsimp only; walk1) | (leave1; (try dsimp only)) | fail "no step")
  (refine' hret _ [] _ _ ?e0 (newsBack hfull hg' (by assumption) (by assumption) ?e1 hex ?e2) (apartBack hfull hg' (by assumption) ?e3 ?e4) ⟨_, rfl⟩; (case e0 => k_asm); (case e1 => (repeat' (first | exact List.forall_mem_nil _ | refine List.forall_mem_cons.mpr ⟨by k_mem, ?_⟩))); (case e2 => (repeat' (first | exact List.forall_mem_nil _ | refine List.forall_mem_cons.mpr ⟨by k_mem, ?_⟩))); (case e3 => (repeat' (first | exact List.forall_mem_nil _ | refine List.forall_mem_cons.mpr ⟨by k_mem, ?_⟩))); (case e4 => (repeat' (first | exact List.forall_mem_nil _ | refine List.forall_mem_cons.mpr ⟨by first | exact neSub (by assumption) (by repeat' (first | exact List.forall_mem_nil _ | refine List.forall_mem_cons.mpr ⟨by k_mem, ?_⟩)) | k_all, ?_⟩))))
end
end Mine
end

section
open PySem PySem.W PyProof.Rows
set_option Elab.async false
set_option maxRecDepth 100000
set_option maxHeartbeats 2000000
namespace Mine
theorem pk_count (p : Params) : findIn (K63 p) (.ref 108) "part_count" = some (some (.ref 105)) := by kernel_rfl
theorem pk_ty105 (p : Params) : typeIn (K63 p) (.ref 105) = some (.type "function") := by kernel_rfl
section
theorem pop_full (w : World) (mean : ExcName → Option Value) (mg mb : Str → Option Value) (p D : Addr) (vs : List Value) (v : Value) (n : Nat) (od : Obj) (hod : PlainD od) (hlen : vs.length ≤ 12) (hpd : @Ne Nat p D) :
    DoesTo w mean mg mb 68 [.ref p] p (pileO D (vs ++ [v]) n) [(D, od)] 2 (fun tl r o' => r = v ∧ ∃ n', o' = pileO D vs n') := by
  unfold DoesTo
  k_fill
  intro dp un gd cn cs a ccd cl outer A₀ base h₀ L m news gg s Q E B F X N T hk hU hex hd hu hret
  have hfull := N
  have hpm := UpdF.mem hU
  have hN : News h₀ L s.heap ((p, pileO D (vs ++ [v]) n) :: [(D, od)]) := fun q hq => N q ((List.forall_mem_cons.mpr ⟨hpm, hex⟩) q hq)
  clear N
  refine wpAny_call ?_
  k_dflt (refine' enterS (binds := [(Str.ofString "self", .ref p)]) ?k1 ?k2 ?k3 hN ?k5 ?kA ?kF ?kK ?k6 ?k7 ?k8 ?k9 ?kB ?_ ?c1 ?c2 ?c3 ?c4; (case kA => exact rfl); (case kF => exact rfl); (case kK => assumption); (case k1 => k_asm); (case k2 => k_asm); (case k3 => k_asm); (case k5 => k_asm); (case k6 => k_is); (case k7 => k_is); (case k8 => ktr_room); (case k9 => first | exact BindsTo.of_eq rfl | exact binds_K (by k_in) rfl (by k_is) rfl rfl rfl); (case kB => exact locs rfl); (case c1 => decide); (case c2 => exact rfl); (case c3 => exact rfl); (case c4 => exact rfl); k_whole; intro g' L' h' hg' FG' F' N' B' X' T' l1; (try dsimp only); (try k_fold))
  (try k_lt l1)
  repeat' (first | (k_unfold; (try dsimp only)) | (k_end; wrow_close) | ((with_reducible show wpAny _ _ (call (Value.ref _) _) _ _ _); (with_reducible (k_here; (with_reducible show wpAny _ _ (call (Value.ref 105) _) _ _ _); with_unfolding_all ( refine' Does.use (count_pile _ _ _ _ _ _ _ _ _) ?zqk1 ?zqk2 ?zqk3 ?zqk4 ?zqk5 ?zqk6 ?zqk7 ?zqk8 ?zqk9 ?_; (case zqk1 => k_asm); (case zqk2 => k_asm); (case zqk3 => k_asm); (case zqk4 => k_asm); (case zqk5 => k_asm); (case zqk6 => first | exact rfl | assumption); (case zqk7 => (repeat' (first | exact List.forall_mem_nil _ | refine List.forall_mem_cons.mpr ⟨by k_mem, ?_⟩)));  (case zqk8 => ktr_room); (case zqk9 => ktr_units); intro r9 tl9 h9 tk9 F9 N9 hl9 ho9; obtain ⟨t9, e9⟩ := ho9; subst e9; (try simp only [List.length_append, List.length_singleton, List.length_nil]); (replace N9 := newsPick (less := _) N9 (fun _ h => List.mem_append_right _ h)); clear hl9; (try dsimp only); (try k_fold)))); (first | (with_reducible show wpAny _ _ (subscriptTail _ _ _ (Value.ref _)) _ _ _) | (with_reducible show wpAny _ _ (setItem _ (Value.ref _) _) _ _ _) | dsimp only | skip)) | ((with_reducible show wpAny _ _ (call (Value.ref _) _) _ _ _); (with_reducible (k_here; with_unfolding_all (refine' boundPop (P := _) ?zqh1 ?zqh2 ?zqh3 ?zqh4 ?zqh5 ?zqh6 ?zqh7 ?_; (case zqh1 => k_asm); (case zqh2 => k_asm); (case zqh3 => k_asm); (case zqh4 => k_mem); (case zqh5 => k_upd); (case zqh6 => k_mem); (case zqh7 => assumption); intro h9 F9 N9))); (first | (with_reducible show wpAny _ _ (subscriptTail _ _ _ (Value.ref _)) _ _ _) | (with_reducible show wpAny _ _ (setItem _ (Value.ref _) _) _ _ _) | dsimp only | skip)) | ((with_reducible show wpAny _ _ (callWith _ (Value.ref _) _ _ _) _ _ _); (with_reducible (k_here; with_unfolding_all (refine' callWithPop ?zqh1 ?zqh2 ?_; (case zqh1 => k_asm); (case zqh2 => k_mem)))); (first | (with_reducible show wpAny _ _ (subscriptTail _ _ _ (Value.ref _)) _ _ _) | (with_reducible show wpAny _ _ (setItem _ (Value.ref _) _) _ _ _) | dsimp only | skip)) | ((with_reducible show wpAny _ _ (getMethod (Value.ref _) _ _) _ _ _); (with_reducible (k_here; with_unfolding_all (refine' pileMeth (name := Str.ofString "part_count") (P := _) (f := .ref 105) (t := .type "function") ?zqh1 ?zqh2 ?zqh3 ?zqh4 ?zqh5 ?zqh6 ?zqh7 ?zqh8 ?zqh9 ?zqh10 ?_; (case zqh1 => k_asm); (case zqh2 => k_asm); (case zqh3 => k_asm); (case zqh4 => k_mem); (case zqh5 => k_mem); (case zqh6 => assumption); (case zqh7 => exact pk_count _); (case zqh8 => exact pk_ty105 _); (case zqh9 => decide +kernel); (case zqh10 => decide +kernel)))); (first | (with_reducible show wpAny _ _ (subscriptTail _ _ _ (Value.ref _)) _ _ _) | (with_reducible show wpAny _ _ (setItem _ (Value.ref _) _) _ _ _) | dsimp only | skip)) | ((with_reducible show wpAny _ _ (getMethod (Value.ref _) _ _) _ _ _); (with_reducible (k_here; with_unfolding_all (refine' superPop (P := _) ?zqh1 ?zqh2 ?zqh3 ?zqh4 ?zqh5 ?zqh6 ?_; (case zqh1 => k_asm); (case zqh2 => k_asm); (case zqh3 => k_asm); (case zqh4 => k_mem); (case zqh5 => k_mem); (case zqh6 => k_mem); intro b9 h9 F9 N9 l9; (try k_lt l9)))); (first | (with_reducible show wpAny _ _ (subscriptTail _ _ _ (Value.ref _)) _ _ _) | (with_reducible show wpAny _ _ (setItem _ (Value.ref _) _) _ _ _) | dsimp only | skip)) | ((with_reducible show PySem.wpAt _ _ _ _ _ _ _); (with_reducible (ks_step "exec Return"; with_unfolding_all (refine ks_wpAt_Return_some (ks_wpAt_MethodCall ?_)))); (first | (with_reducible show wpAny _ _ (subscriptTail _ _ _ (Value.ref _)) _ _ _) | (with_reducible show wpAny _ _ (setItem _ (Value.ref _) _) _ _ _) | dsimp only | skip)) | ((with_reducible show PySem.wpAt _ _ _ _ _ _ _); (with_reducible (show PySem.wpAt _ _ _ _ _ _ _; ks_step "execs cons"; refine ks_wpAt_execs_cons ?_)); (first | (with_reducible show wpAny _ _ (subscriptTail _ _ _ (Value.ref _)) _ _ _) | (with_reducible show wpAny _ _ (setItem _ (Value.ref _) _) _ _ _) | dsimp only | skip)) | ((with_reducible show PySem.wpAt _ _ _ _ _ _ _); (with_reducible (ks_step "attributeBase Call"; k_here; k_dflt (refine ks_node (by k_asm) (by k_asm) (by k_asm) (by k_asm) (by k_is) (by rfl) (by rfl) (PileAt.inst (pileOf (by k_asm) (by k_mem) (by k_mem))) (by k_is) (by rfl) (by first | rfl | decide +kernel) (by k_is) (by k_is) (by k_is) (by k_is) (by decide) (by rfl) (by rfl) (by rfl) (by rfl) (by decide +kernel) (by first | boot_by_name | rfl | kernel_rfl) ?_; intro so9 h9 F9 N9 l9; (try k_lt l9)))); (first | (with_reducible show wpAny _ _ (subscriptTail _ _ _ (Value.ref _)) _ _ _) | (with_reducible show wpAny _ _ (setItem _ (Value.ref _) _) _ _ _) | dsimp only | skip)) | (walk1; (first | (with_reducible show wpAny _ _ (subscriptTail _ _ _ (Value.ref _)) _ _ _) | (with_reducible show wpAny _ _ (setItem _ (Value.ref _) _) _ _ _) | dsimp only | skip)) | (dsimp only; walk1) | (leave1; (try dsimp only)) | fail "no step")
  · exfalso; omega
  · (refine' hret _ [] _ _ _ ?e0 (newsBackTo hfull hU hg' (by assumption) (by assumption) ?e5 ?e1 (List.mem_cons_self ..) (List.forall_mem_cons.mpr ⟨hpm, hex⟩) ?e2) (apartBack hfull hg' (by assumption) ?e3 ?e4) ⟨rfl, _, rfl⟩; (case e0 => k_asm); (case e5 => k_mem); (case e1 => (repeat' (first | exact List.forall_mem_nil _ | refine List.forall_mem_cons.mpr ⟨by first | exact Or.inl rfl | exact Or.inr (by k_mem), ?_⟩))); (case e2 => (repeat' (first | exact List.forall_mem_nil _ | refine List.forall_mem_cons.mpr ⟨by k_mem, ?_⟩))); (case e3 => (repeat' (first | exact List.forall_mem_nil _ | refine List.forall_mem_cons.mpr ⟨by k_mem, ?_⟩))); (case e4 => (repeat' (first | exact List.forall_mem_nil _ | refine List.forall_mem_cons.mpr ⟨by first | exact neSub (by assumption) (by repeat' (first | exact List.forall_mem_nil _ | refine List.forall_mem_cons.mpr ⟨by k_mem, ?_⟩)) | k_all, ?_⟩))))
theorem pop_empty (w : World) (mean : ExcName → Option Value) (mg mb : Str → Option Value) (p D : Addr) (n : Nat) (od : Obj) (hod : PlainD od) (hpd : @Ne Nat p D) :
    DoesTo w mean mg mb 68 [.ref p] p (pileO D [] n) [(D, od)] 2 (fun tl r o' => o' = pileO D [] n ∧ ∃ t t1 t2, r = .ref t ∧ (t, tupOf [.str (Str.ofString "") t1, .str (Str.ofString "") t2] 0) ∈ tl) := by
  unfold DoesTo
  k_fill
  intro dp un gd cn cs a ccd cl outer A₀ base h₀ L m news gg s Q E B F X N T hk hU hex hd hu hret
  have hfull := N
  have hpm := UpdF.mem hU
  have hN : News h₀ L s.heap ((p, pileO D [] n) :: [(D, od)]) := fun q hq => N q ((List.forall_mem_cons.mpr ⟨hpm, hex⟩) q hq)
  clear N
  refine wpAny_call ?_
  k_dflt (refine' enterS (binds := [(Str.ofString "self", .ref p)]) ?k1 ?k2 ?k3 hN ?k5 ?kA ?kF ?kK ?k6 ?k7 ?k8 ?k9 ?kB ?_ ?c1 ?c2 ?c3 ?c4; (case kA => exact rfl); (case kF => exact rfl); (case kK => assumption); (case k1 => k_asm); (case k2 => k_asm); (case k3 => k_asm); (case k5 => k_asm); (case k6 => k_is); (case k7 => k_is); (case k8 => ktr_room); (case k9 => first | exact BindsTo.of_eq rfl | exact binds_K (by k_in) rfl (by k_is) rfl rfl rfl); (case kB => exact locs rfl); (case c1 => decide); (case c2 => exact rfl); (case c3 => exact rfl); (case c4 => exact rfl); k_whole; intro g' L' h' hg' FG' F' N' B' X' T' l1; (try dsimp only); (try k_fold))
  (try k_lt l1)
  repeat' (first | (k_unfold; (try dsimp only)) | (k_end; wrow_close) | ((with_reducible show wpAny _ _ (call (Value.ref _) _) _ _ _); (with_reducible (k_here; (with_reducible show wpAny _ _ (call (Value.ref 105) _) _ _ _); with_unfolding_all ( refine' Does.use (count_pile _ _ _ _ _ _ _ _ _) ?zqk1 ?zqk2 ?zqk3 ?zqk4 ?zqk5 ?zqk6 ?zqk7 ?zqk8 ?zqk9 ?_; (case zqk1 => k_asm); (case zqk2 => k_asm); (case zqk3 => k_asm); (case zqk4 => k_asm); (case zqk5 => k_asm); (case zqk6 => first | exact rfl | assumption); (case zqk7 => (repeat' (first | exact List.forall_mem_nil _ | refine List.forall_mem_cons.mpr ⟨by k_mem, ?_⟩)));  (case zqk8 => ktr_room); (case zqk9 => ktr_units); intro r9 tl9 h9 tk9 F9 N9 hl9 ho9; obtain ⟨t9, e9⟩ := ho9; subst e9; (try simp only [List.length_append, List.length_singleton, List.length_nil]); (replace N9 := newsPick (less := _) N9 (fun _ h => List.mem_append_right _ h)); clear hl9; (try dsimp only); (try k_fold)))); (first | (with_reducible show wpAny _ _ (subscriptTail _ _ _ (Value.ref _)) _ _ _) | (with_reducible show wpAny _ _ (setItem _ (Value.ref _) _) _ _ _) | dsimp only | skip)) | ((with_reducible show wpAny _ _ (call (Value.ref _) _) _ _ _); (with_reducible (k_here; with_unfolding_all (refine' boundPop (P := _) ?zqh1 ?zqh2 ?zqh3 ?zqh4 ?zqh5 ?zqh6 ?zqh7 ?_; (case zqh1 => k_asm); (case zqh2 => k_asm); (case zqh3 => k_asm); (case zqh4 => k_mem); (case zqh5 => k_upd); (case zqh6 => k_mem); (case zqh7 => assumption); intro h9 F9 N9))); (first | (with_reducible show wpAny _ _ (subscriptTail _ _ _ (Value.ref _)) _ _ _) | (with_reducible show wpAny _ _ (setItem _ (Value.ref _) _) _ _ _) | dsimp only | skip)) | ((with_reducible show wpAny _ _ (callWith _ (Value.ref _) _ _ _) _ _ _); (with_reducible (k_here; with_unfolding_all (refine' callWithPop ?zqh1 ?zqh2 ?_; (case zqh1 => k_asm); (case zqh2 => k_mem)))); (first | (with_reducible show wpAny _ _ (subscriptTail _ _ _ (Value.ref _)) _ _ _) | (with_reducible show wpAny _ _ (setItem _ (Value.ref _) _) _ _ _) | dsimp only | skip)) | ((with_reducible show wpAny _ _ (getMethod (Value.ref _) _ _) _ _ _); (with_reducible (k_here; with_unfolding_all (refine' pileMeth (name := Str.ofString "part_count") (P := _) (f := .ref 105) (t := .type "function") ?zqh1 ?zqh2 ?zqh3 ?zqh4 ?zqh5 ?zqh6 ?zqh7 ?zqh8 ?zqh9 ?zqh10 ?_; (case zqh1 => k_asm); (case zqh2 => k_asm); (case zqh3 => k_asm); (case zqh4 => k_mem); (case zqh5 => k_mem); (case zqh6 => assumption); (case zqh7 => exact pk_count _); (case zqh8 => exact pk_ty105 _); (case zqh9 => decide +kernel); (case zqh10 => decide +kernel)))); (first | (with_reducible show wpAny _ _ (subscriptTail _ _ _ (Value.ref _)) _ _ _) | (with_reducible show wpAny _ _ (setItem _ (Value.ref _) _) _ _ _) | dsimp only | skip)) | ((with_reducible show wpAny _ _ (getMethod (Value.ref _) _ _) _ _ _); (with_reducible (k_here; with_unfolding_all (refine' superPop (P := _) ?zqh1 ?zqh2 ?zqh3 ?zqh4 ?zqh5 ?zqh6 ?_; (case zqh1 => k_asm); (case zqh2 => k_asm); (case zqh3 => k_asm); (case zqh4 => k_mem); (case zqh5 => k_mem); (case zqh6 => k_mem); intro b9 h9 F9 N9 l9; (try k_lt l9)))); (first | (with_reducible show wpAny _ _ (subscriptTail _ _ _ (Value.ref _)) _ _ _) | (with_reducible show wpAny _ _ (setItem _ (Value.ref _) _) _ _ _) | dsimp only | skip)) | ((with_reducible show PySem.wpAt _ _ _ _ _ _ _); (with_reducible (ks_step "exec Return"; with_unfolding_all (refine ks_wpAt_Return_some (ks_wpAt_MethodCall ?_)))); (first | (with_reducible show wpAny _ _ (subscriptTail _ _ _ (Value.ref _)) _ _ _) | (with_reducible show wpAny _ _ (setItem _ (Value.ref _) _) _ _ _) | dsimp only | skip)) | ((with_reducible show PySem.wpAt _ _ _ _ _ _ _); (with_reducible (show PySem.wpAt _ _ _ _ _ _ _; ks_step "execs cons"; refine ks_wpAt_execs_cons ?_)); (first | (with_reducible show wpAny _ _ (subscriptTail _ _ _ (Value.ref _)) _ _ _) | (with_reducible show wpAny _ _ (setItem _ (Value.ref _) _) _ _ _) | dsimp only | skip)) | ((with_reducible show PySem.wpAt _ _ _ _ _ _ _); (with_reducible (ks_step "attributeBase Call"; k_here; k_dflt (refine ks_node (by k_asm) (by k_asm) (by k_asm) (by k_asm) (by k_is) (by rfl) (by rfl) (PileAt.inst (pileOf (by k_asm) (by k_mem) (by k_mem))) (by k_is) (by rfl) (by first | rfl | decide +kernel) (by k_is) (by k_is) (by k_is) (by k_is) (by decide) (by rfl) (by rfl) (by rfl) (by rfl) (by decide +kernel) (by first | boot_by_name | rfl | kernel_rfl) ?_; intro so9 h9 F9 N9 l9; (try k_lt l9)))); (first | (with_reducible show wpAny _ _ (subscriptTail _ _ _ (Value.ref _)) _ _ _) | (with_reducible show wpAny _ _ (setItem _ (Value.ref _) _) _ _ _) | dsimp only | skip)) | (walk1; (first | (with_reducible show wpAny _ _ (subscriptTail _ _ _ (Value.ref _)) _ _ _) | (with_reducible show wpAny _ _ (setItem _ (Value.ref _) _) _ _ _) | dsimp only | skip)) | (dsimp only; walk1) | (leave1; (try dsimp only)) | fail "no step")
  (refine' hret _ [(_, _)] _ _ _ ?e0 (newsBackTo hfull hU hg' (by assumption) (by assumption) ?e5 ?e1 (List.mem_cons_self ..) (List.forall_mem_cons.mpr ⟨hpm, hex⟩) ?e2) (apartBack hfull hg' (by assumption) ?e3 ?e4) ⟨rfl, _, _, _, rfl, List.Mem.head _⟩; (case e0 => k_asm); (case e5 => k_mem); (case e1 => (repeat' (first | exact List.forall_mem_nil _ | refine List.forall_mem_cons.mpr ⟨by first | exact Or.inl rfl | exact Or.inr (by k_mem), ?_⟩))); (case e2 => (repeat' (first | exact List.forall_mem_nil _ | refine List.forall_mem_cons.mpr ⟨by k_mem, ?_⟩))); (case e3 => (repeat' (first | exact List.forall_mem_nil _ | refine List.forall_mem_cons.mpr ⟨by k_mem, ?_⟩))); (case e4 => (repeat' (first | exact List.forall_mem_nil _ | refine List.forall_mem_cons.mpr ⟨by first | exact neSub (by assumption) (by repeat' (first | exact List.forall_mem_nil _ | refine List.forall_mem_cons.mpr ⟨by k_mem, ?_⟩)) | k_all, ?_⟩))))
end
end Mine
end

section
open PySem PySem.W PyProof.Rows
set_option Elab.async false
set_option maxRecDepth 100000
set_option maxHeartbeats 2000000
namespace Mine
section
theorem cut_does (w : World) (mean : ExcName → Option Value) (mg mb : Str → Option Value) (p D : Addr) (vs : List Value) (n i : Nat) (ti : Tok) (od : Obj) (hod : PlainD od) (hlen : vs.length ≤ 12) (hi : i ≤ vs.length) (hpd : @Ne Nat p D) :
    DoesTo w mean mg mb 60 [.ref p, .int i ti] p (pileO D vs n) [(D, od)] 2
      (fun tl r o' => ∃ l nl n', r = .ref l ∧ o' = pileO D (vs.take i) n' ∧ (l, listOf (vs.drop i).toArray nl) ∈ tl) := by
  unfold DoesTo
  k_fill
  intro dp un gd cn cs a ccd cl outer A₀ base h₀ L m news gg s Q E B F X N T hk hU hex hd hu hret
  have hfull := N
  have hpm := UpdF.mem hU
  have hN : News h₀ L s.heap ((p, pileO D vs n) :: [(D, od)]) := fun q hq => N q ((List.forall_mem_cons.mpr ⟨hpm, hex⟩) q hq)
  clear N
  refine wpAny_call ?_
  k_dflt (refine' enterP (binds := [(Str.ofString "self", .ref p), (Str.ofString "i", .int i ti)]) ?k1 ?k2 ?k3 hN ?k5 ?kA ?kF ?kK ?k6 ?k7 ?k8 ?k9 ?kB ?_ ?c2 ?c3 ?c4 ?c5; (case kA => exact rfl); (case kF => exact rfl); (case kK => assumption); (case k1 => k_asm); (case k2 => k_asm); (case k3 => k_asm); (case k5 => k_asm); (case k6 => k_is); (case k7 => k_is); (case k8 => ktr_room); (case k9 => first | exact BindsTo.of_eq rfl | exact binds_K (by k_in) rfl (by k_is) rfl rfl rfl); (case c5 => decide); (case kB => exact locs rfl); (case c2 => exact rfl); (case c3 => exact rfl); (case c4 => exact rfl); k_whole; intro g' L' h' tk' hg' FG' F' N' B' X' T' l1; (try dsimp only); (try k_fold))
  (try k_lt l1)
  repeat' (first | (k_unfold; (try dsimp only)) | (k_end; wrow_close) | ((with_reducible show wpAny _ _ (subscriptTail (PySem.Expr.Name _ _) (PySem.Expr.Slice _ _ _ _) (Value.ref _) (Value.ref _)) _ _ _); (with_reducible (k_here; with_unfolding_all (refine' pileSub (P := _) ?zqh1 ?zqh2 ?zqh3 ?zqh4 ?zqh5 ?zqh6 ?zqh7 ?zqh8 ?_; (case zqh1 => k_asm); (case zqh2 => k_asm); (case zqh3 => k_asm); (case zqh4 => k_mem); (case zqh5 => k_mem); (case zqh6 => assumption); (case zqh7 => assumption); (case zqh8 => intro _; rfl); intro l9 h9 F9 N9 l9; (try k_lt l9)))); (first | (with_reducible show wpAny _ _ (subscriptTail _ _ _ (Value.ref _)) _ _ _) | (with_reducible show wpAny _ _ (setItem _ (Value.ref _) _) _ _ _) | dsimp only | skip)) | ((with_reducible show wpAny _ _ (setItem (Value.ref _) (Value.ref _) _) _ _ _); ((k_here; with_unfolding_all (refine' pileCut (P := _) ?zqh1 ?zqh2 ?zqh3 ?zqh4 ?zqh5 ?zqh6 ?zqh7 ?zqh8 ?zqh9 ?_; (case zqh1 => k_asm); (case zqh2 => k_asm); (case zqh3 => k_asm); (case zqh4 => k_updF); (case zqh5 => k_mem); (case zqh6 => k_mem); (case zqh8 => assumption); (case zqh9 => assumption); (case zqh7 => k_ne); intro h9 n9 F9 N9; (try dsimp only at N9)))); (first | (with_reducible show wpAny _ _ (subscriptTail _ _ _ (Value.ref _)) _ _ _) | (with_reducible show wpAny _ _ (setItem _ (Value.ref _) _) _ _ _) | dsimp only | skip)) | (walk1; (first | (with_reducible show wpAny _ _ (subscriptTail _ _ _ (Value.ref _)) _ _ _) | (with_reducible show wpAny _ _ (setItem _ (Value.ref _) _) _ _ _) | dsimp only | skip)) | (dsimp only; walk1) | (leave1; (try dsimp only)) | fail "no step")
  (refine' hret _ [(_, _)] _ _ _ ?e0 (newsBackTo hfull hU hg' (by assumption) (by assumption) ?e5 ?e1 (List.mem_cons_self ..) (List.forall_mem_cons.mpr ⟨hpm, hex⟩) ?e2) (apartBack hfull hg' (by assumption) ?e3 ?e4) ⟨_, _, _, rfl, rfl, List.Mem.head _⟩; (case e0 => k_asm); (case e5 => k_mem); (case e1 => (repeat' (first | exact List.forall_mem_nil _ | refine List.forall_mem_cons.mpr ⟨by first | exact Or.inl rfl | exact Or.inr (by k_mem), ?_⟩))); (case e2 => (repeat' (first | exact List.forall_mem_nil _ | refine List.forall_mem_cons.mpr ⟨by k_mem, ?_⟩))); (case e3 => (repeat' (first | exact List.forall_mem_nil _ | refine List.forall_mem_cons.mpr ⟨by k_mem, ?_⟩))); (case e4 => (repeat' (first | exact List.forall_mem_nil _ | refine List.forall_mem_cons.mpr ⟨by first | exact neSub (by assumption) (by repeat' (first | exact List.forall_mem_nil _ | refine List.forall_mem_cons.mpr ⟨by k_mem, ?_⟩)) | k_all, ?_⟩))))
end
end Mine
end

section
open PySem PySem.W PyProof.Rows
set_option Elab.async false
set_option maxRecDepth 100000
set_option maxHeartbeats 2000000
namespace Mine
section
theorem pile_does (w : World) (mean : ExcName → Option Value) (mg mb : Str → Option Value) :
    Does w mean mg mb 108 [] [] 2 (fun tl r => ∃ p D n od, r = .ref p ∧ (p, pileO D [] n) ∈ tl ∧ (D, od) ∈ tl ∧ PlainD od ∧ @Ne Nat p D) := by
  unfold Does
  k_fill
  intro dp un gd cn cs a ccd cl outer A₀ base h₀ L m news s Q E B F X N T hk hex hd hu hret
  have hfull := N
  have hN : News h₀ L s.heap _ := fun p hp => N p (hex p hp)
  clear N
  refine pileNew (P := w.params) F X hfull ?_
  clear hN
  intro x9 d9 hz9 Fz9 Nz9 l8 l9
  have l8' : ∀ q ∈ news, @LT.lt Nat _ q.1 d9 := l8
  have hU : UpdF d9 (dictOf [] 0) ((x9, pileO d9 [] 0) :: (d9, dictOf [] 0) :: news) (fun o' => (x9, pileO d9 [] 0) :: (d9, o') :: news) := .tail (Nat.ne_of_gt l9) (.head fun q hq => Nat.ne_of_lt (l8' q hq))
  have hN : News h₀ L hz9 [(x9, pileO d9 [] 0), (d9, dictOf [] 0)] := newsPick Nz9 (List.forall_mem_cons.mpr ⟨.head _, List.forall_mem_cons.mpr ⟨.tail _ (.head _), fun _ h => nomatch h⟩⟩)
  have hret' : ∀ od h' tk', PlainD od → Fr h₀ L h' m → News h₀ L h' ([] ++ ((x9, pileO d9 [] 0) :: (d9, od) :: news)) → Q (.ref x9) { s with heap := h', toks := tk' } := fun od h' tk' hp F N => hret _ [(x9, pileO d9 [] 0), (d9, od)] _ _ F N
    (List.forall_mem_cons.mpr ⟨fun q hq => Nat.ne_of_gt (Nat.lt_trans (l8' q hq) l9), List.forall_mem_cons.mpr ⟨fun q hq => Nat.ne_of_gt (l8' q hq), fun _ h => nomatch h⟩⟩) ⟨_, _, _, _, rfl, .head _, .tail _ (.head _), hp, Nat.ne_of_gt l9⟩
  have hexn : ∀ q ∈ [(x9, pileO d9 [] 0), (d9, dictOf [] 0)], q ∈ (x9, pileO d9 [] 0) :: (d9, dictOf [] 0) :: news := List.forall_mem_cons.mpr ⟨.head _, List.forall_mem_cons.mpr ⟨.tail _ (.head _), fun _ h => nomatch h⟩⟩
  clear l8 hret
  k_dflt (refine' enterS (binds := [(Str.ofString "self", .ref x9), (Str.ofString "initial_size", .int 0 238)]) ?k1 ?k2 ?k3 hN ?k5 ?kA ?kF ?kK ?k6 ?k7 ?k8 ?k9 ?kB ?_ ?c1 ?c2 ?c3 ?c4; (case kA => exact rfl); (case kF => exact rfl); (case kK => assumption); (case k1 => k_asm); (case k2 => k_asm); (case k3 => k_asm); (case k5 => k_asm); (case k6 => k_is); (case k7 => k_is); (case k8 => ktr_room); (case k9 => exact binds_K (by k_in) rfl (by k_is) rfl rfl rfl); (case kB => exact locs rfl); (case c1 => decide); (case c2 => exact rfl); (case c3 => exact rfl); (case c4 => exact rfl); k_whole; intro g' L' h' hg' FG' F' N' B' X' T' l1; (try dsimp only); (try k_fold))
  (try k_lt l1)
  repeat' (first | (k_unfold; (try dsimp only)) | (k_end; wrow_close) | ((with_reducible show wpAny _ _ (call (Value.ref _) _) _ _ _); (with_reducible (k_here; with_unfolding_all (refine' boundInit (P := _) ?zqh1 ?zqh2 ?zqh3 ?zqh4 ?zqh5 ?zqh6 ?_; (case zqh1 => k_asm); (case zqh2 => k_asm); (case zqh3 => k_asm); (case zqh4 => k_mem); (case zqh5 => k_upd); (case zqh6 => k_mem); intro h9 F9 N9))); (first | (with_reducible show wpAny _ _ (subscriptTail _ _ _ (Value.ref _)) _ _ _) | (with_reducible show wpAny _ _ (setItem _ (Value.ref _) _) _ _ _) | dsimp only | skip)) | ((with_reducible show wpAny _ _ (callWith _ (Value.ref _) _ _ _) _ _ _); (with_reducible (k_here; with_unfolding_all (refine' callWithInit ?zqh1 ?zqh2 ?_; (case zqh1 => k_asm); (case zqh2 => k_mem)))); (first | (with_reducible show wpAny _ _ (subscriptTail _ _ _ (Value.ref _)) _ _ _) | (with_reducible show wpAny _ _ (setItem _ (Value.ref _) _) _ _ _) | dsimp only | skip)) | ((with_reducible show wpAny _ _ (getMethod (Value.ref _) _ _) _ _ _); (with_reducible (k_here; with_unfolding_all (refine' superInit (P := _) ?zqh1 ?zqh2 ?zqh3 ?zqh4 ?zqh5 ?zqh6 ?_; (case zqh1 => k_asm); (case zqh2 => k_asm); (case zqh3 => k_asm); (case zqh4 => k_mem); (case zqh5 => k_mem); (case zqh6 => k_mem); intro b9 h9 F9 N9 l9; (try k_lt l9)))); (first | (with_reducible show wpAny _ _ (subscriptTail _ _ _ (Value.ref _)) _ _ _) | (with_reducible show wpAny _ _ (setItem _ (Value.ref _) _) _ _ _) | dsimp only | skip)) | ((with_reducible show wpAny _ _ (setAttr _ _ _) _ _ _); ((k_here; with_unfolding_all (refine' pileSize ?zqh1 ?zqh2 ?zqh3 ?zqh4 ?zqh5 ?_; (case zqh1 => k_asm); (case zqh2 => k_asm); (case zqh3 => k_asm); (case zqh4 => k_mem); (case zqh5 => k_updF); intro h9 od9 pd9 F9 N9; (try dsimp only at N9)))); (first | (with_reducible show wpAny _ _ (subscriptTail _ _ _ (Value.ref _)) _ _ _) | (with_reducible show wpAny _ _ (setItem _ (Value.ref _) _) _ _ _) | dsimp only | skip)) | ((with_reducible show PySem.wpAt _ _ _ _ _ _ _); (with_reducible (ks_step "exec Expr"; with_unfolding_all (refine ks_wpAt_Expr_any (ks_wpAt_MethodCall ?_)))); (first | (with_reducible show wpAny _ _ (subscriptTail _ _ _ (Value.ref _)) _ _ _) | (with_reducible show wpAny _ _ (setItem _ (Value.ref _) _) _ _ _) | dsimp only | skip)) | ((with_reducible show PySem.wpAt _ _ _ _ _ _ _); (with_reducible (show PySem.wpAt _ _ _ _ _ _ _; ks_step "execs cons"; refine ks_wpAt_execs_cons ?_)); (first | (with_reducible show wpAny _ _ (subscriptTail _ _ _ (Value.ref _)) _ _ _) | (with_reducible show wpAny _ _ (setItem _ (Value.ref _) _) _ _ _) | dsimp only | skip)) | ((with_reducible show PySem.wpAt _ _ _ _ _ _ _); (with_reducible (ks_step "attributeBase Call"; k_here; k_dflt (refine ks_node (by k_asm) (by k_asm) (by k_asm) (by k_asm) (by k_is) (by rfl) (by rfl) (PileAt.inst (pileOf (by k_asm) (by k_mem) (by k_mem))) (by k_is) (by rfl) (by first | rfl | decide +kernel) (by k_is) (by k_is) (by k_is) (by k_is) (by decide) (by rfl) (by rfl) (by rfl) (by rfl) (by decide +kernel) (by first | boot_by_name | rfl | kernel_rfl) ?_; intro so9 h9 F9 N9 l9; (try k_lt l9)))); (first | (with_reducible show wpAny _ _ (subscriptTail _ _ _ (Value.ref _)) _ _ _) | (with_reducible show wpAny _ _ (setItem _ (Value.ref _) _) _ _ _) | dsimp only | skip)) | (walk1; (first | (with_reducible show wpAny _ _ (subscriptTail _ _ _ (Value.ref _)) _ _ _) | (with_reducible show wpAny _ _ (setItem _ (Value.ref _) _) _ _ _) | dsimp only | skip)) | (dsimp only; walk1) | (leave1; (try dsimp only)) | fail "no step")
  refine hret' _ _ _ (by assumption) (by k_asm) (newsBackTo (tl := []) Nz9 hU hg' (by assumption) (by assumption) ?e0 ?e1 ?e2 hexn ?e3)
  case e0 => k_mem
  case e1 => exact List.forall_mem_cons.mpr ⟨.inr (by k_mem), List.forall_mem_cons.mpr ⟨.inl rfl, fun _ h => nomatch h⟩⟩
  case e2 => simp
  case e3 => exact fun _ h => nomatch h
end
end Mine
end

section
open PySem PySem.W PyProof.Rows
set_option Elab.async false
set_option maxRecDepth 100000
set_option maxHeartbeats 2000000
namespace Mine
theorem iseof_does (w : World) (mean : ExcName → Option Value) (mg mb : Str → Option Value) (n : Int) (t : Tok) :
    Does w mean mg mb 157 [.int n t] [] 1 (fun _ v => v = .bool (n == 0)) := by
  unfold Does
  k_fill
  intro dp un gd cn cs a ccd cl outer A₀ base h₀ L m news s Q E B F X N T hk hex hd hu hret
  have hfull := N
  have hN : News h₀ L s.heap _ := fun p hp => N p (hex p hp)
  clear N
  refine wpAny_call ?_
  k_dflt (refine' enterP (binds := [(Str.ofString "x", .int n t)]) ?k1 ?k2 ?k3 hN ?k5 ?kA ?kF ?kK ?k6 ?k7 ?k8 ?k9 ?kB ?_ ?c2 ?c3 ?c4 ?c5; (case kA => exact rfl); (case kF => exact rfl); (case kK => assumption); (case k1 => k_asm); (case k2 => k_asm); (case k3 => k_asm); (case k5 => k_asm); (case k6 => k_is); (case k7 => k_is); (case k8 => ktr_room); (case k9 => first | exact BindsTo.of_eq rfl | exact binds_K (by k_in) rfl (by k_is) rfl rfl rfl); (case c5 => decide); (case kB => exact locs rfl); (case c2 => exact rfl); (case c3 => exact rfl); (case c4 => exact rfl); k_whole; intro g' L' h' tk' hg' FG' F' N' B' X' T' l1; (try dsimp only); (try k_fold))
  (try k_lt l1)
  repeat' (first | (k_unfold; (try dsimp only)) | (k_end; wrow_close) | (walk1; (first | (with_reducible show wpAny _ _ (subscriptTail _ _ _ (Value.ref _)) _ _ _) | (with_reducible show wpAny _ _ (setItem _ (Value.ref _) _) _ _ _) | dsimp only | skip)) | (dsimp only; walk1) | (leave1; (try dsimp only)) | fail "no step")
  (refine' hret _ [] _ _ ?e0 (newsBack hfull hg' (by assumption) (by assumption) ?e1 hex ?e2) (apartBack hfull hg' (by assumption) ?e3 ?e4) rfl; (case e0 => k_asm); (case e1 => (repeat' (first | exact List.forall_mem_nil _ | refine List.forall_mem_cons.mpr ⟨by k_mem, ?_⟩))); (case e2 => (repeat' (first | exact List.forall_mem_nil _ | refine List.forall_mem_cons.mpr ⟨by k_mem, ?_⟩))); (case e3 => (repeat' (first | exact List.forall_mem_nil _ | refine List.forall_mem_cons.mpr ⟨by k_mem, ?_⟩))); (case e4 => (repeat' (first | exact List.forall_mem_nil _ | refine List.forall_mem_cons.mpr ⟨by first | exact neSub (by assumption) (by repeat' (first | exact List.forall_mem_nil _ | refine List.forall_mem_cons.mpr ⟨by k_mem, ?_⟩)) | k_all, ?_⟩))))
theorem isterm_does (w : World) (mean : ExcName → Option Value) (mg mb : Str → Option Value) (n : Int) (t : Tok) :
    Does w mean mg mb 143 [.int n t] [] 1 (fun _ v => v = .bool (decide (n < 256))) := by
  unfold Does
  k_fill
  intro dp un gd cn cs a ccd cl outer A₀ base h₀ L m news s Q E B F X N T hk hex hd hu hret
  have hfull := N
  have hN : News h₀ L s.heap _ := fun p hp => N p (hex p hp)
  clear N
  refine wpAny_call ?_
  k_dflt (refine' enterP (binds := [(Str.ofString "x", .int n t)]) ?k1 ?k2 ?k3 hN ?k5 ?kA ?kF ?kK ?k6 ?k7 ?k8 ?k9 ?kB ?_ ?c2 ?c3 ?c4 ?c5; (case kA => exact rfl); (case kF => exact rfl); (case kK => assumption); (case k1 => k_asm); (case k2 => k_asm); (case k3 => k_asm); (case k5 => k_asm); (case k6 => k_is); (case k7 => k_is); (case k8 => ktr_room); (case k9 => first | exact BindsTo.of_eq rfl | exact binds_K (by k_in) rfl (by k_is) rfl rfl rfl); (case c5 => decide); (case kB => exact locs rfl); (case c2 => exact rfl); (case c3 => exact rfl); (case c4 => exact rfl); k_whole; intro g' L' h' tk' hg' FG' F' N' B' X' T' l1; (try dsimp only); (try k_fold))
  (try k_lt l1)
  repeat' (first | (k_unfold; (try dsimp only)) | (k_end; wrow_close) | (walk1; (first | (with_reducible show wpAny _ _ (subscriptTail _ _ _ (Value.ref _)) _ _ _) | (with_reducible show wpAny _ _ (setItem _ (Value.ref _) _) _ _ _) | dsimp only | skip)) | (dsimp only; walk1) | (leave1; (try dsimp only)) | fail "no step")
  (refine' hret _ [] _ _ ?e0 (newsBack hfull hg' (by assumption) (by assumption) ?e1 hex ?e2) (apartBack hfull hg' (by assumption) ?e3 ?e4) rfl; (case e0 => k_asm); (case e1 => (repeat' (first | exact List.forall_mem_nil _ | refine List.forall_mem_cons.mpr ⟨by k_mem, ?_⟩))); (case e2 => (repeat' (first | exact List.forall_mem_nil _ | refine List.forall_mem_cons.mpr ⟨by k_mem, ?_⟩))); (case e3 => (repeat' (first | exact List.forall_mem_nil _ | refine List.forall_mem_cons.mpr ⟨by k_mem, ?_⟩))); (case e4 => (repeat' (first | exact List.forall_mem_nil _ | refine List.forall_mem_cons.mpr ⟨by first | exact neSub (by assumption) (by repeat' (first | exact List.forall_mem_nil _ | refine List.forall_mem_cons.mpr ⟨by k_mem, ?_⟩)) | k_all, ?_⟩))))
theorem isnon_does (w : World) (mean : ExcName → Option Value) (mg mb : Str → Option Value) (n : Int) (t : Tok) :
    Does w mean mg mb 150 [.int n t] [] 1 (fun _ v => v = .bool (decide (n ≥ 256))) := by
  unfold Does
  k_fill
  intro dp un gd cn cs a ccd cl outer A₀ base h₀ L m news s Q E B F X N T hk hex hd hu hret
  have hfull := N
  have hN : News h₀ L s.heap _ := fun p hp => N p (hex p hp)
  clear N
  refine wpAny_call ?_
  k_dflt (refine' enterP (binds := [(Str.ofString "x", .int n t)]) ?k1 ?k2 ?k3 hN ?k5 ?kA ?kF ?kK ?k6 ?k7 ?k8 ?k9 ?kB ?_ ?c2 ?c3 ?c4 ?c5; (case kA => exact rfl); (case kF => exact rfl); (case kK => assumption); (case k1 => k_asm); (case k2 => k_asm); (case k3 => k_asm); (case k5 => k_asm); (case k6 => k_is); (case k7 => k_is); (case k8 => ktr_room); (case k9 => first | exact BindsTo.of_eq rfl | exact binds_K (by k_in) rfl (by k_is) rfl rfl rfl); (case c5 => decide); (case kB => exact locs rfl); (case c2 => exact rfl); (case c3 => exact rfl); (case c4 => exact rfl); k_whole; intro g' L' h' tk' hg' FG' F' N' B' X' T' l1; (try dsimp only); (try k_fold))
  (try k_lt l1)
  repeat' (first | (k_unfold; (try dsimp only)) | (k_end; wrow_close) | (walk1; (first | (with_reducible show wpAny _ _ (subscriptTail _ _ _ (Value.ref _)) _ _ _) | (with_reducible show wpAny _ _ (setItem _ (Value.ref _) _) _ _ _) | dsimp only | skip)) | (dsimp only; walk1) | (leave1; (try dsimp only)) | fail "no step")
  (refine' hret _ [] _ _ ?e0 (newsBack hfull hg' (by assumption) (by assumption) ?e1 hex ?e2) (apartBack hfull hg' (by assumption) ?e3 ?e4) rfl; (case e0 => k_asm); (case e1 => (repeat' (first | exact List.forall_mem_nil _ | refine List.forall_mem_cons.mpr ⟨by k_mem, ?_⟩))); (case e2 => (repeat' (first | exact List.forall_mem_nil _ | refine List.forall_mem_cons.mpr ⟨by k_mem, ?_⟩))); (case e3 => (repeat' (first | exact List.forall_mem_nil _ | refine List.forall_mem_cons.mpr ⟨by k_mem, ?_⟩))); (case e4 => (repeat' (first | exact List.forall_mem_nil _ | refine List.forall_mem_cons.mpr ⟨by first | exact neSub (by assumption) (by repeat' (first | exact List.forall_mem_nil _ | refine List.forall_mem_cons.mpr ⟨by k_mem, ?_⟩)) | k_all, ?_⟩))))
end Mine
end

section
open PySem PySem.W PyProof.Rows PySem.Calls
set_option maxRecDepth 100000
namespace Mine
theorem EntryIs.cast {w : World} {led : Led} {v : Value} {a1 a2 a3 a4 a5 a6 a7 b1 b2 b3 b4 b5 b6 b7 : Int} (h : EntryIs w led v a1 a2 a3 a4 a5 a6 a7) (e1 : a1 = b1) (e2 : a2 = b2) (e3 : a3 = b3) (e4 : a4 = b4) (e5 : a5 = b5) (e6 : a6 = b6) (e7 : a7 = b7) :
    EntryIs w led v b1 b2 b3 b4 b5 b6 b7 := by subst e1 e2 e3 e4 e5 e6 e7; exact h
def E7.mirror (x y z : E7) : E7 := ⟨2 * (y.cc + z.cc) - x.cc, 2 * (y.nc + z.nc) - x.nc, 2 * (y.tt + z.tt) - x.tt, 2 * (y.ct + z.ct) - x.ct, 2 * (y.r + z.r) - x.r, 2 * (y.g + z.g) - x.g, 2 * (y.b + z.b) - x.b⟩
abbrev E3 := E7 × E7 × E7
def turnE (c : Nat) (e : E3) : E3 := if c = 0 then (E7.mirror e.1 e.2.1 e.2.2, e.2.1, e.2.2) else if c = 1 then (e.1, E7.mirror e.2.1 e.1 e.2.2, e.2.2) else (e.1, e.2.1, E7.mirror e.2.2 e.1 e.2.1)
def EntsE (w : World) (led : Led) (v : Value) (e : E3) : Prop := EntsIs w led v e.1 e.2.1 e.2.2
theorem EntsE.mono {w : World} {led led' : Led} {v : Value} {e : E3} (h : EntsE w led v e) (hs : ∀ p ∈ led, p ∈ led') : EntsE w led' v e := EntsIs.mono h hs
theorem subR {tl news : Led} : ∀ p ∈ news, p ∈ tl ++ news := fun _ h => List.mem_append_right _ h
theorem subL {tl news : Led} : ∀ p ∈ tl, p ∈ tl ++ news := fun _ h => List.mem_append_left _ h
/-- the tokens of an entry's tuple -/
structure TokR where
  p1 : Tok
  p2 : Tok
  p3 : Tok
  p4 : Tok
  n : Nat
abbrev entT (e : E7) (x : TokR) (d : Addr) : Obj := tupOf [.int e.cc x.p1, .int e.nc x.p2, .int e.tt x.p3, .int e.ct x.p4, .ref d] x.n
theorem EntIs.opened {w : World} {led : Led} {v : Value} {e : E7} (h : EntIs w led v e) : ∃ t x d o, v = .ref t ∧ (t, entT e x d) ∈ led ∧ (d, o) ∈ led ∧ (d == sysModules) = false ∧ DictIs w o e.r e.g e.b := by
  obtain ⟨t, d, o, n, p1, p2, p3, p4, h1, h2, h3, h4, h5⟩ := h
  exact ⟨t, ⟨p1, p2, p3, p4, n⟩, d, o, h1, h2, h3, h4, h5⟩
end Mine
end

section
open PySem PySem.W PyProof.Rows PySem.Calls
set_option maxRecDepth 100000
namespace Mine
/-- a piece on the pile: nothing, and a sign -/
def Sgn (led : Led) (v : Value) (k : Nat) : Prop := ∃ t n t1 t2, v = .ref t ∧ (t, tupOf [.str sNil t1, .str ⟨#[k]⟩ t2] n) ∈ led
inductive PileW (led : Led) : List Value → List Nat → Prop
  | nil : PileW led [] []
  | cons {v k vs w} : Sgn led v k → PileW led vs w → PileW led (v :: vs) (k :: w)
theorem Sgn.mono {led led' : Led} {v : Value} {k : Nat} (h : Sgn led v k) (hs : ∀ p ∈ led, p ∈ led') : Sgn led' v k := let ⟨t, n, t1, t2, e, hm⟩ := h; ⟨t, n, t1, t2, e, hs _ hm⟩
theorem PileW.mono {led led' : Led} {vs : List Value} {w : List Nat} (h : PileW led vs w) (hs : ∀ p ∈ led, p ∈ led') : PileW led' vs w := by
  induction h with
  | nil => exact .nil
  | cons a _ ih => exact .cons (a.mono hs) ih
theorem PileW.length {led : Led} {vs : List Value} {w : List Nat} (h : PileW led vs w) : vs.length = w.length := by
  induction h with
  | nil => rfl
  | cons _ _ ih => simp [ih]
theorem PileW.append {led : Led} {vs us : List Value} {w u : List Nat} (h : PileW led vs w) (h' : PileW led us u) : PileW led (vs ++ us) (w ++ u) := by
  induction h with
  | nil => exact h'
  | cons a _ ih => exact .cons a ih
theorem PileW.take {led : Led} {vs : List Value} {w : List Nat} (h : PileW led vs w) : ∀ n, PileW led (vs.take n) (w.take n) := by
  induction h with
  | nil => intro n; simpa using .nil
  | cons a _ ih => intro n; cases n with | zero => exact .nil | succ n => exact .cons a (ih n)
theorem PileW.drop {led : Led} {vs : List Value} {w : List Nat} (h : PileW led vs w) : ∀ n, PileW led (vs.drop n) (w.drop n) := by
  induction h with
  | nil => intro n; simpa using .nil
  | cons a h' ih => intro n; cases n with | zero => exact .cons a h' | succ n => exact ih n
theorem PileW.reverse {led : Led} {vs : List Value} {w : List Nat} (h : PileW led vs w) : PileW led vs.reverse w.reverse := by
  induction h with
  | nil => exact .nil
  | cons a _ ih => rw [List.reverse_cons, List.reverse_cons]; exact ih.append (.cons a .nil)
theorem PileW.at {led : Led} {vs : List Value} {w : List Nat} (h : PileW led vs w) : ∀ {i : Nat} {v : Value}, vs[i]? = some v → ∃ k, w[i]? = some k ∧ Sgn led v k := by
  induction h with
  | nil => intro i v e; simp at e
  | cons a _ ih =>
    intro i v e
    cases i with
    | zero => exact ⟨_, rfl, (Option.some.inj e) ▸ a⟩
    | succ i => exact ih e
theorem PileW.snoc_inv {led : Led} {vs : List Value} {w : List Nat} {k : Nat} (h : PileW led vs (w ++ [k])) : ∃ us v, vs = us ++ [v] ∧ PileW led us w ∧ Sgn led v k := by
  have h1 := h.take w.length
  have h2 := h.drop w.length
  have hl := h.length
  rw [List.take_left'  rfl] at h1
  rw [List.drop_left' rfl] at h2
  generalize hd : vs.drop w.length = ds at h2
  cases h2 with
  | cons a b =>
    cases b
    exact ⟨vs.take w.length, _, by rw [← hd, List.take_append_drop], h1, a⟩
theorem PileW.nil_inv {led : Led} {vs : List Value} (h : PileW led vs []) : vs = [] := by cases h; rfl
section
variable {w : World} {mean : ExcName → Option Value} {mg mb : Str → Option Value} {v : Value} {e : E3} {k0 : Tok} {c : Nat} {lit R : Led}
    {dp un : Nat} {gd : Option (List Code)} {cn : Str} {cs : Scope} {a : Addr} {ccd : Value} {cl : List (Str × Addr)} {outer : List Env} {A₀ : Around} {base h₀ : Heap} {L : Addr} {m : Str → Option Value} {s : Shared} {Q E : Value → Shared → Prop}
/-- the turn, over an open ledger behind a written one -/
theorem turned_open (hE : EntsE w R v e) (hc : c < 3) (B : Below A₀ base outer h₀) (F : Fr h₀ L s.heap m) (X : (K63 w.params).In h₀) (N : News h₀ L s.heap (lit ++ R))
    (T : Top view63 (looseW view63 [Str.ofString "ONE_THIRD", Str.ofString "ONE_SIXTH", Str.ofString "_Accumulator", Str.ofString "EXACT_TOKEN_TYPES"]) mean mg mb h₀)
    (hk : cs.kind = .function) (hd : dp + 4 < recursionLimit) (hu : un + 8 * 4 < cLine)
    (ret : ∀ r R' h' tk', Fr h₀ L h' m → News h₀ L h' (lit ++ R') → (∀ q ∈ R, q ∈ R') → (∀ q ∈ R', q ∈ R ∨ ∀ x ∈ lit, q.1 ≠ x.1) → EntsE w R' r (turnE c e) → Q r { s with heap := h', toks := tk' }) :
    wpAny (model Challenge.rw_xg0063_01.row.prog w) (ktrTop dp un gd cn cs L a ccd cl outer) (call (.ref 197) [v, .int c k0]) Q E s := by
  obtain ⟨l, n, v0, v1, v2, rfl, hl, E0, E1, E2⟩ := hE
  obtain ⟨t0, d0, o0, n0, p1, p2, p3, p4, rfl, m0, md0, s0, D0⟩ := E0
  obtain ⟨t1, d1, o1, n1, q1, q2, q3, q4, rfl, m1, md1, s1, D1⟩ := E1
  obtain ⟨t2, d2, o2, n2, r1, r2, r3, r4, rfl, m2, md2, s2, D2⟩ := E2
  have E0' : EntIs w R (.ref t0) e.1 := ⟨t0, d0, o0, n0, p1, p2, p3, p4, rfl, m0, md0, s0, D0⟩
  have E1' : EntIs w R (.ref t1) e.2.1 := ⟨t1, d1, o1, n1, q1, q2, q3, q4, rfl, m1, md1, s1, D1⟩
  have E2' : EntIs w R (.ref t2) e.2.2 := ⟨t2, d2, o2, n2, r1, r2, r3, r4, rfl, m2, md2, s2, D2⟩
  have hex : ∀ q ∈ [(l, listOf [.ref t0, .ref t1, .ref t2].toArray n), (t0, tupOf [.int e.1.cc p1, .int e.1.nc p2, .int e.1.tt p3, .int e.1.ct p4, .ref d0] n0), (d0, o0), (t1, tupOf [.int e.2.1.cc q1, .int e.2.1.nc q2, .int e.2.1.tt q3, .int e.2.1.ct q4, .ref d1] n1), (d1, o1), (t2, tupOf [.int e.2.2.cc r1, .int e.2.2.nc r2, .int e.2.2.tt r3, .int e.2.2.ct r4, .ref d2] n2), (d2, o2)], q ∈ lit ++ R := by
    intro q hq
    apply List.mem_append_right
    simp only [List.mem_cons, List.not_mem_nil, or_false] at hq
    rcases hq with h | h | h | h | h | h | h <;> (rw [h]; assumption)
  have fin : ∀ r tl h' tk', Fr h₀ L h' m → News h₀ L h' (tl ++ (lit ++ R)) → (∀ p ∈ tl, ∀ q ∈ lit ++ R, p.1 ≠ q.1) → EntsE w (tl ++ R) r (turnE c e) → Q r { s with heap := h', toks := tk' } := by
    intro r tl h' tk' F' N' ap hE
    refine ret r (tl ++ R) h' tk' F' (fun q hq => N' q ?_) (fun q hq => List.mem_append_right _ hq) (fun q hq => ?_) hE
    · rcases List.mem_append.mp hq with h | h
      · exact List.mem_append_right _ (List.mem_append_left _ h)
      · rcases List.mem_append.mp h with h | h
        · exact List.mem_append_left _ h
        · exact List.mem_append_right _ (List.mem_append_right _ h)
    · rcases List.mem_append.mp hq with h | h
      · exact .inr fun x hx => ap q h x (List.mem_append_left _ hx)
      · exact .inl h
  match c, hc with
  | 0, _ =>
    refine (turned0_does w mean mg mb l t0 t1 t2 d0 d1 d2 o0 o1 o2 n n0 n1 n2 _ _ _ _ _ _ _ _ _ _ _ _ _ _ _ _ _ _ _ _ _ p1 p2 p3 p4 q1 q2 q3 q4 r1 r2 r3 r4 k0 s0 s1 s2 D0 D1 D2).use B F X N T hk hex hd hu fun r tl h' tk' F' N' ap out => fin r tl h' tk' F' N' ap ?_
    obtain ⟨l', n', f, rfl, hl', hf⟩ := out
    exact ⟨l', n', f, _, _, rfl, subL _ hl', (EntryIs.mono hf subL).cast (by show _ = 2 * (_ + _) - _; omega) (by show _ = 2 * (_ + _) - _; omega) (by show _ = 2 * (_ + _) - _; omega) (by show _ = 2 * (_ + _) - _; omega) (by show _ = 2 * (_ + _) - _; omega) (by show _ = 2 * (_ + _) - _; omega) (by show _ = 2 * (_ + _) - _; omega), E1'.mono subR, E2'.mono subR⟩
  | 1, _ =>
    refine (turned1_does w mean mg mb l t0 t1 t2 d0 d1 d2 o0 o1 o2 n n0 n1 n2 _ _ _ _ _ _ _ _ _ _ _ _ _ _ _ _ _ _ _ _ _ p1 p2 p3 p4 q1 q2 q3 q4 r1 r2 r3 r4 k0 s0 s1 s2 D0 D1 D2).use B F X N T hk hex hd hu fun r tl h' tk' F' N' ap out => fin r tl h' tk' F' N' ap ?_
    obtain ⟨l', n', f, rfl, hl', hf⟩ := out
    exact ⟨l', n', _, f, _, rfl, subL _ hl', E0'.mono subR, (EntryIs.mono hf subL).cast (by show _ = 2 * (_ + _) - _; omega) (by show _ = 2 * (_ + _) - _; omega) (by show _ = 2 * (_ + _) - _; omega) (by show _ = 2 * (_ + _) - _; omega) (by show _ = 2 * (_ + _) - _; omega) (by show _ = 2 * (_ + _) - _; omega) (by show _ = 2 * (_ + _) - _; omega), E2'.mono subR⟩
  | 2, _ =>
    refine (turned2_does w mean mg mb l t0 t1 t2 d0 d1 d2 o0 o1 o2 n n0 n1 n2 _ _ _ _ _ _ _ _ _ _ _ _ _ _ _ _ _ _ _ _ _ p1 p2 p3 p4 q1 q2 q3 q4 r1 r2 r3 r4 k0 s0 s1 s2 D0 D1 D2).use B F X N T hk hex hd hu fun r tl h' tk' F' N' ap out => fin r tl h' tk' F' N' ap ?_
    obtain ⟨l', n', f, rfl, hl', hf⟩ := out
    exact ⟨l', n', _, _, f, rfl, subL _ hl', E0'.mono subR, E1'.mono subR, (EntryIs.mono hf subL).cast (by show _ = 2 * (_ + _) - _; omega) (by show _ = 2 * (_ + _) - _; omega) (by show _ = 2 * (_ + _) - _; omega) (by show _ = 2 * (_ + _) - _; omega) (by show _ = 2 * (_ + _) - _; omega) (by show _ = 2 * (_ + _) - _; omega) (by show _ = 2 * (_ + _) - _; omega)⟩
  | (_ + 3), h => exact absurd h (by omega)
end
/-- off an address -/
theorem NeAll.grow {d : Addr} {o : Obj} {lit R R' : Led} (h : NeAll d R) (hd : (d, o) ∈ lit) (hg : ∀ q ∈ R', q ∈ R ∨ ∀ x ∈ lit, q.1 ≠ x.1) : NeAll d R' := neAll_of fun q hq => by
  rcases hg q hq with h1 | h1
  · exact neAll_at h q h1
  · exact fun e => h1 _ hd e.symm
end Mine
end

section
open PySem PySem.W PyProof.Rows PySem.Calls
set_option maxRecDepth 100000
namespace Mine
/-- one number's turn of the run -/
def stepR (c : List Nat × E3) (x : Int) : List Nat × E3 :=
  if x % 4 = 3 then (c.1.take (c.1.length - 1 - (x / 4 % 3).toNat), (c.1.drop (c.1.length - 1 - (x / 4 % 3).toNat)).reverse.foldl (fun e k => turnE (placeOf k) e) c.2)
  else (pushS c.1 (codeOf (x % 4)), turnE (x % 4).toNat c.2)
def runN (ns : List Int) (e : E3) : List Nat × E3 := ns.foldl stepR ([], e)
theorem stepR_fst (c : List Nat × E3) (x : Int) : (stepR c x).1 = stepT c.1 x := by
  unfold stepR stepT; split <;> rfl
theorem run_fst : ∀ (ns : List Int) (c : List Nat × E3), (ns.foldl stepR c).1 = ns.foldl stepT c.1
  | [], _ => rfl
  | x :: r, c => by rw [List.foldl_cons, List.foldl_cons, run_fst r, stepR_fst]
theorem runN_fst (ns : List Int) (e : E3) : (runN ns e).1 = leftN ns := run_fst ns ([], e)
structure RunS where
  vs : List Value
  n : Nat
  w : List Nat
  v : Value
  e : E3
  R : Led
structure RunOk (w : World) (p : Addr) (R0 : Led) (c : RunS) : Prop where
  sub : ∀ q ∈ R0, q ∈ c.R
  good : Good c.w 12
  pile : PileW c.R c.vs c.w
  ents : EntsE w c.R c.v c.e
  np : NeAll p c.R
abbrev runLed (p D : Addr) (od : Obj) (rl : Addr) (rvs : List Value) (rn : Nat) (c : RunS) : Led := (p, pileO D c.vs c.n) :: (D, od) :: (rl, listOf rvs.toArray rn) :: c.R
abbrev sEntries : Str := Str.ofString "entries"
abbrev runStored : List Str := [Str.ofString "gone", Str.ofString "piece", Str.ofString "c", Str.ofString "top"]
section
variable {prog : Program} {w : World} {A : Around} {E : Value → Shared → Prop} {s : Shared} {env : Env} {h₀ : Heap} {x : Str} {body : List Stmt} {Q : Flow → Shared → Prop}
theorem runLoop {p D rl : Addr} {od : Obj} {rvs : List Value} {rn n0 : Nat} {ns : List Int} {v0 : Value} {e0 : E3} {R0 : Led} {m₀ : Str → Option Value} (hi : IntsAre rvs (ns.map symOf ++ [0, 49])) (hp0 : ∀ x ∈ ns, 0 ≤ x) (hlen : ns.length ≤ 12) (hh : A.handled = none)
    (F : Fr h₀ env.locals s.heap m₀) (N : News h₀ env.locals s.heap ((p, pileO D [] n0) :: (D, od) :: (rl, listOf rvs.toArray rn) :: R0)) (hent : m₀ sEntries = some v0) (hE : EntsE w R0 v0 e0) (hpR : NeAll p R0)
    (turn : ∀ (sym : Int) (t : Tok) (c : RunS) (u : Str → Option Value) h tk I oI (Inv : RunS → Prop), RunOk w p R0 c → NeAll I (runLed p D od rl rvs rn c) →
      ((sym = 0 ∧ (c.w, c.e) = runN ns e0) ∨ (∃ x, 0 ≤ x ∧ sym = symOf x ∧ ∀ y : RunS, (y.w, y.e) = stepR (c.w, c.e) x → PileW y.R y.vs y.w → EntsE w y.R y.v y.e → NeAll p y.R → (∀ q ∈ R0, q ∈ y.R) → Inv y)) →
      Fr h₀ env.locals h (fun y => if y = x then some (.int sym t) else if y = sEntries then some c.v else if runStored.contains y then u y else m₀ y) → News h₀ env.locals h ((I, oI) :: runLed p D od rl rvs rn c) →
      wpAny (model prog w) A (execs body env) (LPost (runLed p D od rl rvs rn) (fun c => [(sEntries, c.v)]) runStored Inv h₀ env.locals x m₀ I oI { s with heap := h, toks := tk } Q) E { s with heap := h, toks := tk }) :
    wpAny (model prog w) A (pyIter (.ref rl)) (fun it s₂ => LoopAtV prog w A h₀ env x body Q E it s₂) E s := by
  have hrl : rvs.length = ns.length + 2 := by rw [hi.length]; simp
  refine loopList (l := rl) (vs := rvs) (nn := rn) (runLed p D od rl rvs rn) (fun c => [(sEntries, c.v)]) runStored (fun i c => i ≤ ns.length ∧ (c.w, c.e) = runN (ns.take i) e0 ∧ RunOk w p R0 c) ⟨[], n0, [], v0, e0, R0⟩ hh
    (fun _ => .tail _ (.tail _ (.head _))) F N (fun q hq => by rw [List.mem_singleton.mp hq]; exact hent)
    ⟨Nat.zero_le _, rfl, (fun _ h => h), ⟨(fun i k h => by simp at h), (fun k h => nomatch h), Nat.zero_le _⟩, .nil, hE, hpR⟩ ?_ ?_
  · rintro i c val u h tk I oI hlt hi' hv ⟨hin, hst, hok⟩ hne F₁ N₁
    obtain ⟨sym, t, rfl, hk⟩ := IntsAre.at hi i val hv
    refine turn sym t c u h tk I oI _ hok hne ?_ F₁ N₁
    by_cases hc : i < ns.length
    · right
      rw [List.getElem?_append_left (by simpa using hc), List.getElem?_map] at hk
      obtain ⟨x, hx, rfl⟩ := Option.map_eq_some_iff.mp hk
      refine ⟨x, hp0 x (List.mem_of_getElem? hx), rfl, fun y h1 h2 h3 h4 h5 => ?_⟩
      have hst' : (y.w, y.e) = runN (ns.take (i + 1)) e0 := by
        rw [h1, hst, List.take_add_one, hx]
        simp [runN, List.foldl_append]
      refine ⟨hc, hst', h5, ?_, h2, h3, h4⟩
      have hw : y.w = leftN (ns.take (i + 1)) := by rw [← runN_fst _ e0, ← hst']
      have hg := good_left (ns.take (i + 1))
      rw [hw]
      exact ⟨hg.dbl, hg.sg, by have := hg.len; simp at this; omega⟩
    · left
      have ei : i = ns.length := by omega
      subst ei
      rw [List.getElem?_append_right (by simp)] at hk
      simp at hk
      rw [List.take_length] at hst
      exact ⟨hk.symm, hst⟩
  · rintro c u h tk ⟨hin, _⟩
    omega
end
/-- a contract that says nothing of what is apart -/
def DoesW (w : World) (mean : ExcName → Option Value) (mg mb : Str → Option Value) (f : Addr) (vs : List Value) (ex : Led) (room : Nat) (Out : Led → Value → Prop) : Prop :=
  ∀ (dp un : Nat) (gd : Option (List Code)) (cn : Str) (cs : Scope) (a : Addr) (ccd : Value) (cl : List (Str × Addr)) (outer : List Env) (A₀ : Around) (base h₀ : Heap) (L : Addr) (m : Str → Option Value) (news : Led) (s : Shared) (Q E : Value → Shared → Prop),
    Below A₀ base outer h₀ → Fr h₀ L s.heap m → (K63 w.params).In h₀ → News h₀ L s.heap news →
    Top view63 (looseW view63 [Str.ofString "ONE_THIRD", Str.ofString "ONE_SIXTH", Str.ofString "_Accumulator", Str.ofString "EXACT_TOKEN_TYPES"]) mean mg mb h₀ →
    cs.kind = .function → (∀ p ∈ ex, p ∈ news) → dp + room < recursionLimit → un + 8 * room < cLine →
    (∀ r tl h' tk', Fr h₀ L h' m → News h₀ L h' (tl ++ news) → Out tl r → Q r { s with heap := h', toks := tk' }) →
    wpAny (model Challenge.rw_xg0063_01.row.prog w) (ktrTop dp un gd cn cs L a ccd cl outer) (call (.ref f) vs) Q E s
theorem LPost.brk {σ : Type} {Q : Flow → Shared → Prop} {LedOf : σ → Led} {ps : σ → List (Str × Value)} {stored : List Str} {Inv : σ → Prop} {h₀ : Heap} {L : Addr} {x : Str} {m₀ : Str → Option Value} {I : Addr} {oI : Obj} {s₁ s₂ : Shared} (h : Q .next s₂) : LPost LedOf ps stored Inv h₀ L x m₀ I oI s₁ Q .brk s₂ := h
theorem neTail {d : Addr} {q : Addr × Obj} {R : Led} (h : NeAll d (q :: R)) : NeAll d R := h.2
theorem upGrow {p : Addr} {o : Obj} {a b : Addr × Obj} {lit R R' : Led} (h : ∀ q ∈ a :: b :: R, q.1 ≠ p) (hp : (p, o) ∈ lit) (off : ∀ q ∈ R', q ∈ R ∨ ∀ x ∈ lit, q.1 ≠ x.1) : ∀ q ∈ a :: b :: R', q.1 ≠ p := by
  refine List.forall_mem_cons.mpr ⟨h a (.head _), List.forall_mem_cons.mpr ⟨h b (.tail _ (.head _)), fun q hq => ?_⟩⟩
  rcases off q hq with h1 | h1
  · exact h q (.tail _ (.tail _ h1))
  · exact h1 _ hp
theorem subTrans {R R' R'' : Led} (h : ∀ q ∈ R, q ∈ R') (h' : ∀ q ∈ R', q ∈ R'') : ∀ q ∈ R, q ∈ R'' := fun q hq => h' q (h q hq)
theorem upMake {h₀ h : Heap} {L I p D rl : Addr} {oI po od o : Obj} {R R0 : Led} (_N : News h₀ L h ((I, oI) :: (p, po) :: (D, od) :: (rl, o) :: R)) (h1 : @Ne Nat p D) (h2 : NeAll p ((rl, o) :: R0)) (h3 : NeAll p R) : ∀ q ∈ (D, od) :: (rl, o) :: R, q.1 ≠ p :=
  List.forall_mem_cons.mpr ⟨fun e => h1 e.symm, List.forall_mem_cons.mpr ⟨fun e => h2.1 e.symm, fun q hq e => neAll_at h3 q hq e.symm⟩⟩
end Mine
end

section
open PySem PySem.W PyProof.Rows PySem.Calls
set_option maxRecDepth 100000
namespace Mine
def symN (c : Nat) : Int := if c = 0 then 49 else if c = 1 then 32 else 31
def codeN (c : Nat) : Nat := if c = 0 then 64 else if c = 1 then 94 else 126
section
variable {prog : Program} {w : World} {A : Around} {E : Value → Shared → Prop} {s : Shared} {h₀ : Heap} {L : Addr} {m : Str → Option Value} {news : Led} {D a b : Addr}
theorem idxL {c : Nat} {sym : Int} {t k1 k2 k3 : Tok} {n : Nat} {Q : Value → Shared → Prop} (hc : c < 3) (hs : sym = symN c) (N : News h₀ L s.heap news) (hm : (D, listOf #[.int 49 k1, .int 32 k2, .int 31 k3] n) ∈ news)
    (h : Q (.int c s.toks) { s with toks := s.toks + 1 }) : wpAny (model prog w) A (call (.builtin "list.index") [.ref D, .int sym t]) Q E s := by
  subst hs
  match c, hc with
  | 0, _ => exact kf_index (j := 0) N hm rfl rfl rfl (by rw [sizeLine_eq]; simp) h
  | 1, _ => exact kf_index (j := 1) N hm rfl rfl rfl (by rw [sizeLine_eq]; simp) h
  | 2, _ => exact kf_index (j := 2) N hm rfl rfl rfl (by rw [sizeLine_eq]; simp) h
  | (_ + 3), h => exact absurd h (by omega)
theorem signAt {c : Nat} {t u : Tok} {value slice : Expr} {Q : Value → Shared → Prop} (hc : c < 3) (h : Q (.str ⟨#[codeN c]⟩ s.toks) { s with toks := s.toks + 1 })
    (hs : ∀ i, subscripted slice false (.str sAll t) (.int i u) = operate [.str sAll t, .int i u] (getItem (.str sAll t) (.int i u))) (ht : ∀ r, letTemporaryGo value (.str sAll t) r = pure ()) :
    wpAny (model prog w) A (subscriptTail value slice (.str sAll t) (.int c u)) Q E s := by
  refine KXi.item (n := 3) (by decide +kernel) (by omega) (by omega) (by decide) (fun _ => ?_) (hs _) ht
  have e : Txt.item sAll (c : Int) = ⟨#[codeN c]⟩ := by
    match c, hc with
    | 0, _ => decide +kernel
    | 1, _ => decide +kernel
    | 2, _ => decide +kernel
    | (_ + 3), h => exact absurd h (by omega)
  rw [e]; exact h
theorem shp {x y : Str} (h1 : PyData.strOk x = true) (h2 : PyData.strOk y = true) : SeqAt.shaped (.tuple [.str x, .str y]) = true := by
  simp [SeqAt.shaped, PyData.canLay0, PyData.canLayAll0, h1, h2, PyData.depth, PyData.depthAll]
theorem okNil : PyData.strOk sNil = true := by decide +kernel
theorem okCode (c : Nat) : PyData.strOk ⟨#[codeN c]⟩ = true := by
  unfold codeN
  split
  · decide +kernel
  · split <;> decide +kernel
theorem okSgn {k : Nat} (h : k = 64 ∨ k = 94 ∨ k = 126) : PyData.strOk ⟨#[k]⟩ = true := by
  rcases h with rfl | rfl | rfl <;> decide +kernel
theorem nePair {x1 x2 y1 y2 : Str} {t1 t2 u1 u2 : Tok} {n n' : Nat} {r : Bool} {Q : Value → Shared → Prop} (N : News h₀ L s.heap news) (h1 : (a, tupOf [.str x1 t1, .str x2 t2] n) ∈ news) (h2 : (b, tupOf [.str y1 u1, .str y2 u2] n') ∈ news)
    (hu : A.units + 64 < cLine) (o1 : PyData.strOk x1 = true) (o2 : PyData.strOk x2 = true) (o3 : PyData.strOk y1 = true) (o4 : PyData.strOk y2 = true) (hr : (x1 == y1 && x2 == y2) = r) (h : Q (.bool (!r)) s) : wpAny (model prog w) A (compareOp .NotEq (.ref a) (.ref b)) Q E s := by
  refine ne_dataH (da := .tuple [.str x1, .str x2]) (db := .tuple [.str y1, .str y2]) (reads_tuple_at (N.get h1) rfl rfl (.cons (.str _ _) (.cons (.str _ _) .nil))) (reads_tuple_at (N.get h2) rfl rfl (.cons (.str _ _) (.cons (.str _ _) .nil))) (shp o1 o2) (shp o3 o4) hu ?_
  have e : PyData.eqv (.tuple [.str x1, .str x2]) (.tuple [.str y1, .str y2]) = r := by
    rw [← hr]
    show (x1 == y1 && (x2 == y2 && true)) = _
    rw [Bool.and_true]
  rw [e]; exact h
theorem nilNil : (sNil == sNil && sNil == sNil) = true := by decide +kernel
theorem signNe {j k : Nat} (h : j ≠ k) : (sNil == sNil && (⟨#[j]⟩ : Str) == ⟨#[k]⟩) = false := by
  have : ((⟨#[j]⟩ : Str) == ⟨#[k]⟩) = false := by
    rw [beq_eq_false_iff_ne]; intro e; injection e with e; simp at e; exact h e
  rw [this, Bool.and_false]
theorem signEq {k : Nat} : (sNil == sNil && (⟨#[k]⟩ : Str) == ⟨#[k]⟩) = true := by
  have e1 : (sNil == sNil) = true := by decide +kernel
  rw [e1, beq_self_eq_true]; rfl
theorem signNil {j : Nat} : (sNil == sNil && (⟨#[j]⟩ : Str) == sNil) = false := by
  have : ((⟨#[j]⟩ : Str) == sNil) = false := by
    rw [beq_eq_false_iff_ne, sNil_eq]; intro e; injection e with e; simp at e
  rw [this, Bool.and_false]
theorem nilSign {j : Nat} : (sNil == sNil && sNil == (⟨#[j]⟩ : Str)) = false := by
  have : (sNil == (⟨#[j]⟩ : Str)) = false := by
    rw [beq_eq_false_iff_ne, sNil_eq]; intro e; injection e with e; simp at e
  rw [this, Bool.and_false]
end
end Mine
end

section
open PySem PySem.W PyProof.Rows PySem.Calls
set_option maxRecDepth 100000
namespace Mine
theorem cutInt {prog : Program} {w : World} {A : Around} {E : Value → Shared → Prop} {s : Shared} {f p : Addr} {x : Int} {i : Nat} {t : Tok} {Q : Value → Shared → Prop} (h : x = (i : Int)) (H : wpAny (model prog w) A (call (.ref f) [.ref p, .int i t]) Q E s) :
    wpAny (model prog w) A (call (.ref f) [.ref p, .int x t]) Q E s := by subst h; exact H
theorem pushS_nil {k : Nat} : pushS [] k = [k] := rfl
theorem pushS_same {w : List Nat} {k : Nat} : pushS (w ++ [k]) k = w := by simp [pushS]
theorem pushS_diff {w : List Nat} {j k : Nat} (h : j ≠ k) : pushS (w ++ [j]) k = w ++ [j] ++ [k] := by
  unfold pushS; rw [if_neg (by simpa using h)]
theorem stepR_push {w : List Nat} {e : E3} {x : Int} {c : Nat} (hc : c < 3) (hx : x % 4 = c) : stepR (w, e) x = (pushS w (codeN c), turnE c e) := by
  unfold stepR
  rw [if_neg (by omega), hx]
  have e1 : codeOf (c : Int) = codeN c := by
    match c, hc with
    | 0, _ => rfl
    | 1, _ => rfl
    | 2, _ => rfl
    | (_ + 3), h => exact absurd h (by omega)
  rw [e1]; rfl
theorem runNext {w : World} {h₀ h' : Heap} {L I p D rl : Addr} {oI od opl opl' orl : Obj} {m₀ m' : Str → Option Value} {rvs : List Value} {rn : Nat} {R R9 R0 lit news' : Led} {vs' : List Value} {n' : Nat} {wd wd' : List Nat} {v9 : Value} {e e9 : E3} {k : Int}
    {x : Str} {Inv : RunS → Prop} {s₁ : Shared} {tk' : Nat} {Q : Flow → Shared → Prop} (tups : Led)
    (F : Fr h₀ L h' m') (N : News h₀ L h' news') (hst : (wd', e9) = stepR (wd, e) k) (E9 : EntsE w R9 v9 e9) (sub9 : ∀ q ∈ R, q ∈ R9) (off9 : ∀ q ∈ R9, q ∈ R ∨ ∀ x ∈ lit, q.1 ≠ x.1)
    (hInv : ∀ y : RunS, (y.w, y.e) = stepR (wd, e) k → PileW y.R y.vs y.w → EntsE w y.R y.v y.e → NeAll p y.R → (∀ q ∈ R0, q ∈ y.R) → Inv y)
    (hI : NeAll I ((p, opl) :: (D, od) :: (rl, orl) :: R)) (hnp : NeAll p R) (hsub : ∀ q ∈ R0, q ∈ R) (hIl : (I, oI) ∈ lit) (hpl : (p, opl') ∈ lit)
    (mI : (I, oI) ∈ news') (mp : (p, pileO D vs' n') ∈ news') (mD : (D, od) ∈ news') (mrl : (rl, listOf rvs.toArray rn) ∈ news') (mR : ∀ q ∈ R9, q ∈ news')
    (mt : ∀ q ∈ tups, q ∈ news') (tI : ∀ q ∈ tups, @Ne Nat I q.1) (tp : ∀ q ∈ tups, @Ne Nat p q.1) (hP : PileW (tups ++ R9) vs' wd') (hk : ∀ p ∈ [(sEntries, v9)], m' p.1 = some p.2)
    (hr : ∀ z, z ≠ x → (∀ p ∈ [(sEntries, v9)], z ≠ p.1) → runStored.contains z = false → m' z = m₀ z) :
    LPost (runLed p D od rl rvs rn) (fun c => [(sEntries, c.v)]) runStored Inv h₀ L x m₀ I oI s₁ Q .next { s₁ with heap := h', toks := tk' } := by
  have gI := NeAll.grow (neTail (neTail (neTail hI))) hIl off9
  have gp := NeAll.grow hnp hpl off9
  refine LPost.next ⟨vs', n', wd', v9, e9, tups ++ R9⟩ F N ?_ ⟨hI.1, hI.2.1, hI.2.2.1, neAll_of fun q hq => ?_⟩ hk hr
    (hInv _ hst hP (E9.mono fun q hq => List.mem_append_right _ hq) (neAll_of fun q hq => ?_) fun q hq => List.mem_append_right _ (sub9 q (hsub q hq)))
  · refine List.forall_mem_cons.mpr ⟨mI, List.forall_mem_cons.mpr ⟨mp, List.forall_mem_cons.mpr ⟨mD, List.forall_mem_cons.mpr ⟨mrl, fun q hq => ?_⟩⟩⟩⟩
    rcases List.mem_append.mp hq with h | h
    · exact mt q h
    · exact mR q h
  · rcases List.mem_append.mp hq with h | h
    · exact tI q h
    · exact neAll_at gI q h
  · rcases List.mem_append.mp hq with h | h
    · exact tp q h
    · exact neAll_at gp q h
end Mine
end

section
open PySem PySem.W PyProof.Rows PySem.Calls
set_option maxRecDepth 100000
namespace Mine
def foldE (w : List Nat) (e : E3) : E3 := w.foldl (fun e k => turnE (placeOf k) e) e
structure PieceS where
  v : Value
  e : E3
  R : Led
structure PieceOk (w : World) (I p : Addr) (R : Led) (c : PieceS) : Prop where
  sub : ∀ q ∈ R, q ∈ c.R
  ents : EntsE w c.R c.v c.e
  nI : NeAll I c.R
  np : NeAll p c.R
abbrev pieceLed (l c9 I p D rl : Addr) (ol o9 oI op od orl : Obj) (c : PieceS) : Led := (l, ol) :: (c9, o9) :: (I, oI) :: (p, op) :: (D, od) :: (rl, orl) :: c.R
section
variable {prog : Program} {w : World} {A : Around} {E : Value → Shared → Prop} {s : Shared} {env : Env} {h₀ : Heap} {x : Str} {body : List Stmt} {Q : Flow → Shared → Prop}
theorem idxPiece {k : Nat} {t u : Tok} {Q : Value → Shared → Prop} (hk : k = 64 ∨ k = 94 ∨ k = 126) (h : Q (.int (placeOf k) s.toks) { s with toks := s.toks + 1 }) : wpAny (model prog w) A (call (.builtin "str.index") [.str sAll t, .str ⟨#[k]⟩ u]) Q E s := by
  rcases hk with rfl | rfl | rfl
  · exact idx0 rfl h
  · exact idx1 rfl h
  · exact idx2 rfl h
theorem placeOf_lt (k : Nat) : placeOf k < 3 := by unfold placeOf; split; · decide
                                                   split <;> decide
theorem pieceLoop {l c9 I p D rl : Addr} {o9 oI op od orl : Obj} {rvs : List Value} {rw : List Nat} {rn : Nat} {v0 : Value} {e0 : E3} {R : Led} {m₀ : Str → Option Value} (hw : PileW R rvs rw) (hg : ∀ k ∈ rw, k = 64 ∨ k = 94 ∨ k = 126) (hE : EntsE w R v0 e0) (hIR : NeAll I R) (hpR : NeAll p R) (hh : A.handled = none)
    (F : Fr h₀ env.locals s.heap m₀) (N : News h₀ env.locals s.heap ((l, listOf rvs.toArray rn) :: (c9, o9) :: (I, oI) :: (p, op) :: (D, od) :: (rl, orl) :: R)) (hent : m₀ sEntries = some v0)
    (turn : ∀ (k : Nat) (t : Addr) (n : Nat) (t1 t2 : Tok) (c : PieceS) (u : Str → Option Value) h tk J oJ (Inv : PieceS → Prop), (k = 64 ∨ k = 94 ∨ k = 126) → (t, tupOf [.str sNil t1, .str ⟨#[k]⟩ t2] n) ∈ c.R → PieceOk w I p R c →
      NeAll J (pieceLed l c9 I p D rl (listOf rvs.toArray rn) o9 oI op od orl c) →
      (∀ y : PieceS, y.e = turnE (placeOf k) c.e → EntsE w y.R y.v y.e → NeAll I y.R → NeAll p y.R → (∀ q ∈ R, q ∈ y.R) → Inv y) →
      Fr h₀ env.locals h (fun y => if y = x then some (.ref t) else if y = sEntries then some c.v else m₀ y) → News h₀ env.locals h ((J, oJ) :: pieceLed l c9 I p D rl (listOf rvs.toArray rn) o9 oI op od orl c) →
      wpAny (model prog w) A (execs body env) (LPost (pieceLed l c9 I p D rl (listOf rvs.toArray rn) o9 oI op od orl) (fun c => [(sEntries, c.v)]) [] Inv h₀ env.locals x m₀ J oJ { s with heap := h, toks := tk } Q) E { s with heap := h, toks := tk })
    (done : ∀ (v' : Value) (R' : Led) (u : Str → Option Value) h tk, EntsE w R' v' (foldE rw e0) → (∀ q ∈ R, q ∈ R') → NeAll I R' → NeAll p R' →
      Fr h₀ env.locals h (fun y => if y = x then u y else if y = sEntries then some v' else m₀ y) → News h₀ env.locals h ((l, listOf rvs.toArray rn) :: (c9, o9) :: (I, oI) :: (p, op) :: (D, od) :: (rl, orl) :: R') → Q .next { s with heap := h, toks := tk }) :
    wpAny (model prog w) A (pyIter (.ref l)) (fun it s₂ => LoopAtV prog w A h₀ env x body Q E it s₂) E s := by
  refine loopList (l := l) (vs := rvs) (nn := rn) (pieceLed l c9 I p D rl (listOf rvs.toArray rn) o9 oI op od orl) (fun c => [(sEntries, c.v)]) [] (fun i c => c.e = foldE (rw.take i) e0 ∧ PieceOk w I p R c) ⟨v0, e0, R⟩ hh
    (fun _ => .head _) F N (fun q hq => by rw [List.mem_singleton.mp hq]; exact hent)
    ⟨rfl, (fun _ h => h), hE, hIR, hpR⟩ ?_ ?_
  · rintro i c val u h tk J oJ _ hi' hv ⟨hst, hok⟩ hne F₁ N₁
    obtain ⟨k, hk, t, n, t1, t2, rfl, hm⟩ := hw.at hv
    refine turn k t n t1 t2 c u h tk J oJ _ (hg k (List.mem_of_getElem? hk)) (hok.sub _ hm) hok hne (fun y h1 h2 h3 h4 h5 => ⟨?_, h5, h2, h3, h4⟩) F₁ N₁
    rw [h1, hst, List.take_add_one, hk]
    simp [foldE, List.foldl_append]
  · rintro ⟨v', e', R'⟩ u h tk ⟨hst, hok⟩ F₁ N₁
    have e : rw.take rvs.length = rw := List.take_of_length_le (by rw [hw.length]; exact Nat.le_refl _)
    rw [e] at hst
    have he := hok.ents
    dsimp only at hst he
    rw [hst] at he
    exact done v' R' u h tk he hok.sub hok.nI hok.np F₁ N₁
end
theorem pieceNext {w : World} {h₀ h' : Heap} {L I J p l c9 D rl : Addr} {ol o9 oI op oI' op' od orl oJ : Obj} {m₀ m' : Str → Option Value} {R R1 R9 lit news' : Led} {v9 : Value} {e1 : E3} {k : Nat}
    {x : Str} {Inv : PieceS → Prop} {s₁ : Shared} {tk' : Nat} {Q : Flow → Shared → Prop}
    (F : Fr h₀ L h' m') (N : News h₀ L h' news') (E9 : EntsE w R9 v9 (turnE (placeOf k) e1)) (sub9 : ∀ q ∈ R1, q ∈ R9) (off9 : ∀ q ∈ R9, q ∈ R1 ∨ ∀ x ∈ lit, q.1 ≠ x.1)
    (hInv : ∀ y : PieceS, y.e = turnE (placeOf k) e1 → EntsE w y.R y.v y.e → NeAll I y.R → NeAll p y.R → (∀ q ∈ R, q ∈ y.R) → Inv y)
    (hJ : NeAll J ((l, ol) :: (c9, o9) :: (I, oI) :: (p, op) :: (D, od) :: (rl, orl) :: R1)) (hnI : NeAll I R1) (hnp : NeAll p R1) (hsub : ∀ q ∈ R, q ∈ R1) (hJl : (J, oJ) ∈ lit) (hIl : (I, oI') ∈ lit) (hpl : (p, op') ∈ lit)
    (mn : ∀ q ∈ (J, oJ) :: (l, ol) :: (c9, o9) :: (I, oI) :: (p, op) :: (D, od) :: (rl, orl) :: R9, q ∈ news')
    (hk : ∀ p ∈ [(sEntries, v9)], m' p.1 = some p.2)
    (hr : ∀ z, z ≠ x → (∀ p ∈ [(sEntries, v9)], z ≠ p.1) → ([] : List Str).contains z = false → m' z = m₀ z) :
    LPost (pieceLed l c9 I p D rl ol o9 oI op od orl) (fun c => [(sEntries, c.v)]) [] Inv h₀ L x m₀ J oJ s₁ Q .next { s₁ with heap := h', toks := tk' } := by
  have gI := NeAll.grow hnI hIl off9
  have gp := NeAll.grow hnp hpl off9
  have gJ := NeAll.grow (neTail (neTail (neTail (neTail (neTail (neTail hJ)))))) hJl off9
  exact LPost.next ⟨v9, _, R9⟩ F N mn ⟨hJ.1, hJ.2.1, hJ.2.2.1, hJ.2.2.2.1, hJ.2.2.2.2.1, hJ.2.2.2.2.2.1, gJ⟩ hk hr
    (hInv ⟨v9, _, R9⟩ rfl E9 gI gp fun q hq => sub9 q (hsub q hq))
/-- the end of a row's turn whose pile has only shrunk -/
theorem runCut {w : World} {h₀ h' : Heap} {L I p D rl : Addr} {oI od opl orl : Obj} {m₀ m' : Str → Option Value} {rvs : List Value} {rn : Nat} {R R9 R0 news' : Led} {vs' : List Value} {n' : Nat} {wd wd' : List Nat} {v9 : Value} {e e9 : E3} {k : Int}
    {x : Str} {Inv : RunS → Prop} {s₁ : Shared} {tk' : Nat} {Q : Flow → Shared → Prop}
    (F : Fr h₀ L h' m') (N : News h₀ L h' news') (hst : (wd', e9) = stepR (wd, e) k) (E9 : EntsE w R9 v9 e9) (sub9 : ∀ q ∈ R, q ∈ R9) (gI : NeAll I R9) (gp : NeAll p R9)
    (hInv : ∀ y : RunS, (y.w, y.e) = stepR (wd, e) k → PileW y.R y.vs y.w → EntsE w y.R y.v y.e → NeAll p y.R → (∀ q ∈ R0, q ∈ y.R) → Inv y)
    (hI : NeAll I ((p, opl) :: (D, od) :: (rl, orl) :: R)) (hsub : ∀ q ∈ R0, q ∈ R)
    (mI : (I, oI) ∈ news') (mp : (p, pileO D vs' n') ∈ news') (mD : (D, od) ∈ news') (mrl : (rl, listOf rvs.toArray rn) ∈ news') (mR : ∀ q ∈ R9, q ∈ news')
    (hP : PileW R9 vs' wd') (hk : ∀ p ∈ [(sEntries, v9)], m' p.1 = some p.2)
    (hr : ∀ z, z ≠ x → (∀ p ∈ [(sEntries, v9)], z ≠ p.1) → runStored.contains z = false → m' z = m₀ z) :
    LPost (runLed p D od rl rvs rn) (fun c => [(sEntries, c.v)]) runStored Inv h₀ L x m₀ I oI s₁ Q .next { s₁ with heap := h', toks := tk' } := by
  refine LPost.next ⟨vs', n', wd', v9, e9, R9⟩ F N ?_ ⟨hI.1, hI.2.1, hI.2.2.1, gI⟩ hk hr (hInv _ hst hP E9 gp fun q hq => sub9 q (hsub q hq))
  exact List.forall_mem_cons.mpr ⟨mI, List.forall_mem_cons.mpr ⟨mp, List.forall_mem_cons.mpr ⟨mD, List.forall_mem_cons.mpr ⟨mrl, mR⟩⟩⟩⟩
theorem stepR_cut {w : List Nat} {e : E3} {x : Int} (hx : x % 4 = 3) : stepR (w, e) x = (w.take (w.length - 1 - (x / 4 % 3).toNat), foldE (w.drop (w.length - 1 - (x / 4 % 3).toNat)).reverse e) := by
  unfold stepR; rw [if_pos hx]; rfl
end Mine
end

section
open PySem PySem.W PyProof.Rows
set_option Elab.async false
set_option maxRecDepth 100000
set_option maxHeartbeats 8000000
namespace Mine
section
theorem run_does (w : World) (mean : ExcName → Option Value) (mg mb : Str → Option Value) (rl : Addr) (rvs : List Value) (rn : Nat) (ns : List Int) (v0 : Value) (e0 : E3) (R0 : Led)
    (hi : IntsAre rvs (ns.map symOf ++ [0, 49])) (hp0 : ∀ x ∈ ns, 0 ≤ x) (hlen : ns.length ≤ 12) (hE : EntsE w R0 v0 e0) :
    DoesW w mean mg mb 204 [.ref rl, v0] ((rl, listOf rvs.toArray rn) :: R0) 20
      (fun tl r => ∃ t p D vs n od nt v', r = .ref t ∧ (t, tupOf [.ref p, v'] nt) ∈ tl ∧ (p, pileO D vs n) ∈ tl ∧ (D, od) ∈ tl ∧ PlainD od ∧ PileW tl vs (leftN ns) ∧ EntsE w tl v' (runN ns e0).2) := by
  unfold DoesW
  k_fill
  intro dp un gd cn cs a ccd cl outer A₀ base h₀ L m news s Q E B F X N T hk hex hd hu hret
  have hfull := N
  have hN : News h₀ L s.heap _ := fun p hp => N p (hex p hp)
  clear N
  refine wpAny_call ?_
  k_dflt (refine' enterP (binds := [(Str.ofString "row", .ref rl), (Str.ofString "first", v0)]) ?k1 ?k2 ?k3 hN ?k5 ?kA ?kF ?kK ?k6 ?k7 ?k8 ?k9 ?kB ?_ ?c2 ?c3 ?c4 ?c5; (case kA => exact rfl); (case kF => exact rfl); (case kK => assumption); (case k1 => k_asm); (case k2 => k_asm); (case k3 => k_asm); (case k5 => k_asm); (case k6 => k_is); (case k7 => k_is); (case k8 => ktr_room); (case k9 => first | exact BindsTo.of_eq rfl | exact binds_K (by k_in) rfl (by k_is) rfl rfl rfl); (case c5 => decide); (case kB => exact locs rfl); (case c2 => exact rfl); (case c3 => exact rfl); (case c4 => exact rfl); k_whole; intro g' L' h' tk' hg' FG' F' N' B' X' T' l1; (try dsimp only); (try k_fold))
  (try k_lt l1)
  repeat' (first | (k_unfold; (try dsimp only)) | (k_end; wrow_close) | ((with_reducible show wpAny _ _ (exec (Stmt.For (PySem.Expr.Name _ _) (PySem.Expr.Subscript _ _ _) (_ :: _) [] _) _) _ _ _); (with_reducible (k_here; refine Halt.out ?_)); (first | (with_reducible show wpAny _ _ (subscriptTail _ _ _ (Value.ref _)) _ _ _) | (with_reducible show wpAny _ _ (setItem _ (Value.ref _) _) _ _ _) | dsimp only | skip)) | ((with_reducible show wpAny _ _ (exec (Stmt.For (PySem.Expr.Name _ _) (PySem.Expr.Name _ _) (_ :: _) [] _) _) _ _ _); (with_reducible (k_here; refine Halt.out ?_)); (first | (with_reducible show wpAny _ _ (subscriptTail _ _ _ (Value.ref _)) _ _ _) | (with_reducible show wpAny _ _ (setItem _ (Value.ref _) _) _ _ _) | dsimp only | skip)) | ((with_reducible show wpAny _ _ (subscriptTail (PySem.Expr.Name _ _) (PySem.Expr.Slice _ _ _ _) (Value.ref _) (Value.ref _)) _ _ _); ((k_here; (with_reducible show wpAny _ _ (subscriptTail _ (PySem.Expr.Slice none none (some _) _) (Value.ref _) (Value.ref _)) _ _ _); k_dflt (refine' krv_lit ?zqF ?zqN ?zql ?zqk ?zqe ?_ ?zqs ?zqt ?zqz; (case zqF => k_asm); (case zqN => k_asm); (case zql => kmk_list); (case zqk => exact IsPart.int _ _); (case zqe => exact rfl); (case zqs => with_unfolding_all rfl); (case zqt => kmk_pure); (case zqz => (rw [sizeLine_eq]; simp only [List.size_toArray, List.length_drop]; omega))); intro D' h' F' N' l1; (try k_lt l1))); (first | (with_reducible show wpAny _ _ (subscriptTail _ _ _ (Value.ref _)) _ _ _) | (with_reducible show wpAny _ _ (setItem _ (Value.ref _) _) _ _ _) | dsimp only | skip)) | ((with_reducible show wpAny _ _ (compareOp CmpOp.NotEq (Value.ref _) (Value.ref _)) _ _ _); (with_reducible (k_here; with_unfolding_all (refine' nePair ?zqh1 ?zqh2 ?zqh3 ?zqh4 ?zqo1 ?zqo2 ?zqo3 ?zqo4 ?zqh5 ?_; (case zqh1 => k_asm); (case zqh2 => k_mem); (case zqh3 => k_mem); (case zqh4 => ktr_units); (case zqo1 => exact okNil); (case zqo2 => first | exact okNil | exact okCode _ | with_reducible assumption); (case zqo3 => exact okNil); (case zqo4 => first | exact okNil | exact okCode _ | with_reducible assumption); (case zqh5 => first | with_reducible assumption | exact signEq | exact signNe (by with_reducible assumption) | exact signNil | exact nilSign | exact nilNil)))); (first | (with_reducible show wpAny _ _ (subscriptTail _ _ _ (Value.ref _)) _ _ _) | (with_reducible show wpAny _ _ (setItem _ (Value.ref _) _) _ _ _) | dsimp only | skip)) | ((with_reducible show wpAny _ _ (call (Value.builtin "str.index") _) _ _ _); (with_reducible (k_here; with_unfolding_all (refine idxPiece (by with_reducible assumption) ?_))); (first | (with_reducible show wpAny _ _ (subscriptTail _ _ _ (Value.ref _)) _ _ _) | (with_reducible show wpAny _ _ (setItem _ (Value.ref _) _) _ _ _) | dsimp only | skip)) | ((with_reducible show wpAny _ _ (getMethod (Value.ref _) _ _) _ _ _); (with_reducible (k_here; with_unfolding_all (refine' pileMeth (name := Str.ofString "part_count") (P := _) (f := .ref 105) (t := .type "function") ?zqh1 ?zqh2 ?zqh3 ?zqh4 ?zqh5 ?zqh6 ?zqh7 ?zqh8 ?zqh9 ?zqh10 ?_; (case zqh1 => k_asm); (case zqh2 => k_asm); (case zqh3 => k_asm); (case zqh4 => k_mem); (case zqh5 => k_mem); (case zqh6 => assumption); (case zqh7 => kernel_rfl); (case zqh8 => kernel_rfl); (case zqh9 => decide +kernel); (case zqh10 => decide +kernel)))); (first | (with_reducible show wpAny _ _ (subscriptTail _ _ _ (Value.ref _)) _ _ _) | (with_reducible show wpAny _ _ (setItem _ (Value.ref _) _) _ _ _) | dsimp only | skip)) | ((with_reducible show wpAny _ _ (getMethod (Value.ref _) _ _) _ _ _); (with_reducible (k_here; with_unfolding_all (refine' pileMeth (name := Str.ofString "pop_from") (P := _) (f := .ref 60) (t := .type "function") ?zqh1 ?zqh2 ?zqh3 ?zqh4 ?zqh5 ?zqh6 ?zqh7 ?zqh8 ?zqh9 ?zqh10 ?_; (case zqh1 => k_asm); (case zqh2 => k_asm); (case zqh3 => k_asm); (case zqh4 => k_mem); (case zqh5 => k_mem); (case zqh6 => assumption); (case zqh7 => kernel_rfl); (case zqh8 => kernel_rfl); (case zqh9 => decide +kernel); (case zqh10 => decide +kernel)))); (first | (with_reducible show wpAny _ _ (subscriptTail _ _ _ (Value.ref _)) _ _ _) | (with_reducible show wpAny _ _ (setItem _ (Value.ref _) _) _ _ _) | dsimp only | skip)) | ((with_reducible show wpAny _ _ (getMethod (Value.ref _) _ _) _ _ _); (with_reducible (k_here; with_unfolding_all (refine' pileMeth (name := Str.ofString "push") (P := _) (f := .ref 52) (t := .type "function") ?zqh1 ?zqh2 ?zqh3 ?zqh4 ?zqh5 ?zqh6 ?zqh7 ?zqh8 ?zqh9 ?zqh10 ?_; (case zqh1 => k_asm); (case zqh2 => k_asm); (case zqh3 => k_asm); (case zqh4 => k_mem); (case zqh5 => k_mem); (case zqh6 => assumption); (case zqh7 => kernel_rfl); (case zqh8 => kernel_rfl); (case zqh9 => decide +kernel); (case zqh10 => decide +kernel)))); (first | (with_reducible show wpAny _ _ (subscriptTail _ _ _ (Value.ref _)) _ _ _) | (with_reducible show wpAny _ _ (setItem _ (Value.ref _) _) _ _ _) | dsimp only | skip)) | ((with_reducible show wpAny _ _ (getMethod (Value.ref _) _ _) _ _ _); (with_reducible (k_here; with_unfolding_all (refine' pileMeth (name := Str.ofString "pop") (P := _) (f := .ref 68) (t := .type "function") ?zqh1 ?zqh2 ?zqh3 ?zqh4 ?zqh5 ?zqh6 ?zqh7 ?zqh8 ?zqh9 ?zqh10 ?_; (case zqh1 => k_asm); (case zqh2 => k_asm); (case zqh3 => k_asm); (case zqh4 => k_mem); (case zqh5 => k_mem); (case zqh6 => assumption); (case zqh7 => kernel_rfl); (case zqh8 => kernel_rfl); (case zqh9 => decide +kernel); (case zqh10 => decide +kernel)))); (first | (with_reducible show wpAny _ _ (subscriptTail _ _ _ (Value.ref _)) _ _ _) | (with_reducible show wpAny _ _ (setItem _ (Value.ref _) _) _ _ _) | dsimp only | skip)) | ((with_reducible show wpAny _ _ (call (Value.builtin "list.index") _) _ _ _); (with_reducible (k_here; with_unfolding_all (refine' idxL ?zqh1 ?zqh2 ?zqh3 ?zqh4 ?_; (case zqh1 => with_reducible assumption); (case zqh2 => with_reducible assumption); (case zqh3 => k_asm); (case zqh4 => k_mem)))); (first | (with_reducible show wpAny _ _ (subscriptTail _ _ _ (Value.ref _)) _ _ _) | (with_reducible show wpAny _ _ (setItem _ (Value.ref _) _) _ _ _) | dsimp only | skip)) | ((with_reducible show wpAny _ _ (call (Value.ref _) _) _ _ _); (with_reducible (k_here; (with_reducible show wpAny _ _ (call (Value.ref 108) _) _ _ _); with_unfolding_all ( refine' Does.use (pile_does _ _ _ _) ?zqk1 ?zqk2 ?zqk3 ?zqk4 ?zqk5 ?zqk6 ?zqk7 ?zqk8 ?zqk9 ?_; (case zqk1 => k_asm); (case zqk2 => k_asm); (case zqk3 => k_asm); (case zqk4 => k_asm); (case zqk5 => k_asm); (case zqk6 => first | exact rfl | assumption); (case zqk7 => (repeat' (first | exact List.forall_mem_nil _ | refine List.forall_mem_cons.mpr ⟨by k_mem, ?_⟩)));  (case zqk8 => ktr_room); (case zqk9 => ktr_units); intro r9 tl9 h9 tk9 F9 N9 hl9 ho9; obtain ⟨p9, d9, n9, od9, e9, hm9, hn9, hp9, hq9⟩ := ho9; subst e9; (have l9 := apartOf hl9 hm9); (have m9 := apartOf hl9 hn9); (replace N9 := newsPick (less := (p9, _) :: (d9, od9) :: _) N9 (List.forall_mem_cons.mpr ⟨List.mem_append_left _ hm9, List.forall_mem_cons.mpr ⟨List.mem_append_left _ hn9, fun _ h => List.mem_append_right _ h⟩⟩)); clear hl9 hm9 hn9; (try dsimp only); (try k_fold)))); (first | (with_reducible show wpAny _ _ (subscriptTail _ _ _ (Value.ref _)) _ _ _) | (with_reducible show wpAny _ _ (setItem _ (Value.ref _) _) _ _ _) | dsimp only | skip)) | ((with_reducible show wpAny _ _ (subscriptTail _ _ _ _) _ _ _); (with_reducible (k_here; with_unfolding_all (refine' signAt ?zqh1 ?_ ?zqh2 ?zqh3; (case zqh1 => with_reducible assumption); (case zqh2 => intro _; rfl); (case zqh3 => intro _; rfl)))); (first | (with_reducible show wpAny _ _ (subscriptTail _ _ _ (Value.ref _)) _ _ _) | (with_reducible show wpAny _ _ (setItem _ (Value.ref _) _) _ _ _) | dsimp only | skip)) | (walk1; (first | (with_reducible show wpAny _ _ (subscriptTail _ _ _ (Value.ref _)) _ _ _) | (with_reducible show wpAny _ _ (setItem _ (Value.ref _) _) _ _ _) | dsimp only | skip)) | (dsimp only; walk1) | (leave1; (try dsimp only)) | fail "no step")
  refine Halt.go ?_
  rename News _ _ _ _ => N2
  rename Fr _ _ _ _ => F2
  with_unfolding_all refine' For_invVF F2 ?k1 ?k2 ?_
  (case k1 => exact rfl)
  (case k2 => exact rfl)
  k_whole
  k_dflt (refine ld F2 (by rfl) ?_)
  with_unfolding_all refine' runLoop hi hp0 hlen ?hh F2 N2 ?hent hE ?hpR ?turn
  (case hh => rfl)
  case hent => rfl
  case hpR => exact neTail (by assumption)
  case turn =>
    clear F2 N2
    intro sym t c u h tk I oI Inv hok hI hcase F2 N2
    obtain ⟨vs, n, wd, v, e, R⟩ := c
    obtain ⟨hsub, hgood, hpile, hents, hnp⟩ := hok
    dsimp only [runLed] at hsub hgood hpile hents hnp hI hcase F2 N2
    have hIp := hI.1
    have hup := upMake N2 (by assumption) (R0 := R0) (by assumption) hnp
    rcases hcase with ⟨rfl, hend⟩ | ⟨x, hx0, hsym, hInv⟩
    · repeat' (first | (k_unfold; (try dsimp only)) | (k_end; wrow_close) | ((with_reducible show wpAny _ _ (exec (Stmt.For (PySem.Expr.Name _ _) (PySem.Expr.Subscript _ _ _) (_ :: _) [] _) _) _ _ _); (with_reducible (k_here; refine Halt.out ?_)); (first | (with_reducible show wpAny _ _ (subscriptTail _ _ _ (Value.ref _)) _ _ _) | (with_reducible show wpAny _ _ (setItem _ (Value.ref _) _) _ _ _) | dsimp only | skip)) | ((with_reducible show wpAny _ _ (exec (Stmt.For (PySem.Expr.Name _ _) (PySem.Expr.Name _ _) (_ :: _) [] _) _) _ _ _); (with_reducible (k_here; refine Halt.out ?_)); (first | (with_reducible show wpAny _ _ (subscriptTail _ _ _ (Value.ref _)) _ _ _) | (with_reducible show wpAny _ _ (setItem _ (Value.ref _) _) _ _ _) | dsimp only | skip)) | ((with_reducible show wpAny _ _ (subscriptTail (PySem.Expr.Name _ _) (PySem.Expr.Slice _ _ _ _) (Value.ref _) (Value.ref _)) _ _ _); ((k_here; (with_reducible show wpAny _ _ (subscriptTail _ (PySem.Expr.Slice none none (some _) _) (Value.ref _) (Value.ref _)) _ _ _); k_dflt (refine' krv_lit ?zqF ?zqN ?zql ?zqk ?zqe ?_ ?zqs ?zqt ?zqz; (case zqF => k_asm); (case zqN => k_asm); (case zql => kmk_list); (case zqk => exact IsPart.int _ _); (case zqe => exact rfl); (case zqs => with_unfolding_all rfl); (case zqt => kmk_pure); (case zqz => (rw [sizeLine_eq]; simp only [List.size_toArray, List.length_drop]; omega))); intro D' h' F' N' l1; (try k_lt l1))); (first | (with_reducible show wpAny _ _ (subscriptTail _ _ _ (Value.ref _)) _ _ _) | (with_reducible show wpAny _ _ (setItem _ (Value.ref _) _) _ _ _) | dsimp only | skip)) | ((with_reducible show wpAny _ _ (compareOp CmpOp.NotEq (Value.ref _) (Value.ref _)) _ _ _); (with_reducible (k_here; with_unfolding_all (refine' nePair ?zqh1 ?zqh2 ?zqh3 ?zqh4 ?zqo1 ?zqo2 ?zqo3 ?zqo4 ?zqh5 ?_; (case zqh1 => k_asm); (case zqh2 => k_mem); (case zqh3 => k_mem); (case zqh4 => ktr_units); (case zqo1 => exact okNil); (case zqo2 => first | exact okNil | exact okCode _ | with_reducible assumption); (case zqo3 => exact okNil); (case zqo4 => first | exact okNil | exact okCode _ | with_reducible assumption); (case zqh5 => first | with_reducible assumption | exact signEq | exact signNe (by with_reducible assumption) | exact signNil | exact nilSign | exact nilNil)))); (first | (with_reducible show wpAny _ _ (subscriptTail _ _ _ (Value.ref _)) _ _ _) | (with_reducible show wpAny _ _ (setItem _ (Value.ref _) _) _ _ _) | dsimp only | skip)) | ((with_reducible show wpAny _ _ (call (Value.builtin "str.index") _) _ _ _); (with_reducible (k_here; with_unfolding_all (refine idxPiece (by with_reducible assumption) ?_))); (first | (with_reducible show wpAny _ _ (subscriptTail _ _ _ (Value.ref _)) _ _ _) | (with_reducible show wpAny _ _ (setItem _ (Value.ref _) _) _ _ _) | dsimp only | skip)) | ((with_reducible show wpAny _ _ (getMethod (Value.ref _) _ _) _ _ _); (with_reducible (k_here; with_unfolding_all (refine' pileMeth (name := Str.ofString "part_count") (P := _) (f := .ref 105) (t := .type "function") ?zqh1 ?zqh2 ?zqh3 ?zqh4 ?zqh5 ?zqh6 ?zqh7 ?zqh8 ?zqh9 ?zqh10 ?_; (case zqh1 => k_asm); (case zqh2 => k_asm); (case zqh3 => k_asm); (case zqh4 => k_mem); (case zqh5 => k_mem); (case zqh6 => assumption); (case zqh7 => kernel_rfl); (case zqh8 => kernel_rfl); (case zqh9 => decide +kernel); (case zqh10 => decide +kernel)))); (first | (with_reducible show wpAny _ _ (subscriptTail _ _ _ (Value.ref _)) _ _ _) | (with_reducible show wpAny _ _ (setItem _ (Value.ref _) _) _ _ _) | dsimp only | skip)) | ((with_reducible show wpAny _ _ (getMethod (Value.ref _) _ _) _ _ _); (with_reducible (k_here; with_unfolding_all (refine' pileMeth (name := Str.ofString "pop_from") (P := _) (f := .ref 60) (t := .type "function") ?zqh1 ?zqh2 ?zqh3 ?zqh4 ?zqh5 ?zqh6 ?zqh7 ?zqh8 ?zqh9 ?zqh10 ?_; (case zqh1 => k_asm); (case zqh2 => k_asm); (case zqh3 => k_asm); (case zqh4 => k_mem); (case zqh5 => k_mem); (case zqh6 => assumption); (case zqh7 => kernel_rfl); (case zqh8 => kernel_rfl); (case zqh9 => decide +kernel); (case zqh10 => decide +kernel)))); (first | (with_reducible show wpAny _ _ (subscriptTail _ _ _ (Value.ref _)) _ _ _) | (with_reducible show wpAny _ _ (setItem _ (Value.ref _) _) _ _ _) | dsimp only | skip)) | ((with_reducible show wpAny _ _ (getMethod (Value.ref _) _ _) _ _ _); (with_reducible (k_here; with_unfolding_all (refine' pileMeth (name := Str.ofString "push") (P := _) (f := .ref 52) (t := .type "function") ?zqh1 ?zqh2 ?zqh3 ?zqh4 ?zqh5 ?zqh6 ?zqh7 ?zqh8 ?zqh9 ?zqh10 ?_; (case zqh1 => k_asm); (case zqh2 => k_asm); (case zqh3 => k_asm); (case zqh4 => k_mem); (case zqh5 => k_mem); (case zqh6 => assumption); (case zqh7 => kernel_rfl); (case zqh8 => kernel_rfl); (case zqh9 => decide +kernel); (case zqh10 => decide +kernel)))); (first | (with_reducible show wpAny _ _ (subscriptTail _ _ _ (Value.ref _)) _ _ _) | (with_reducible show wpAny _ _ (setItem _ (Value.ref _) _) _ _ _) | dsimp only | skip)) | ((with_reducible show wpAny _ _ (getMethod (Value.ref _) _ _) _ _ _); (with_reducible (k_here; with_unfolding_all (refine' pileMeth (name := Str.ofString "pop") (P := _) (f := .ref 68) (t := .type "function") ?zqh1 ?zqh2 ?zqh3 ?zqh4 ?zqh5 ?zqh6 ?zqh7 ?zqh8 ?zqh9 ?zqh10 ?_; (case zqh1 => k_asm); (case zqh2 => k_asm); (case zqh3 => k_asm); (case zqh4 => k_mem); (case zqh5 => k_mem); (case zqh6 => assumption); (case zqh7 => kernel_rfl); (case zqh8 => kernel_rfl); (case zqh9 => decide +kernel); (case zqh10 => decide +kernel)))); (first | (with_reducible show wpAny _ _ (subscriptTail _ _ _ (Value.ref _)) _ _ _) | (with_reducible show wpAny _ _ (setItem _ (Value.ref _) _) _ _ _) | dsimp only | skip)) | ((with_reducible show wpAny _ _ (call (Value.builtin "list.index") _) _ _ _); (with_reducible (k_here; with_unfolding_all (refine' idxL ?zqh1 ?zqh2 ?zqh3 ?zqh4 ?_; (case zqh1 => with_reducible assumption); (case zqh2 => with_reducible assumption); (case zqh3 => k_asm); (case zqh4 => k_mem)))); (first | (with_reducible show wpAny _ _ (subscriptTail _ _ _ (Value.ref _)) _ _ _) | (with_reducible show wpAny _ _ (setItem _ (Value.ref _) _) _ _ _) | dsimp only | skip)) | ((with_reducible show wpAny _ _ (call (Value.ref _) _) _ _ _); (with_reducible (k_here; (with_reducible show wpAny _ _ (call (Value.ref 157) _) _ _ _); with_unfolding_all ( refine' Does.use (iseof_does _ _ _ _ _ _) ?zqk1 ?zqk2 ?zqk3 ?zqk4 ?zqk5 ?zqk6 ?zqk7 ?zqk8 ?zqk9 ?_; (case zqk1 => k_asm); (case zqk2 => k_asm); (case zqk3 => k_asm); (case zqk4 => k_asm); (case zqk5 => k_asm); (case zqk6 => first | exact rfl | assumption); (case zqk7 => (repeat' (first | exact List.forall_mem_nil _ | refine List.forall_mem_cons.mpr ⟨by k_mem, ?_⟩)));  (case zqk8 => ktr_room); (case zqk9 => ktr_units); intro r9 tl9 h9 tk9 F9 N9 hl9 ho9; subst ho9; (replace N9 := newsPick (less := _) N9 (fun _ h => List.mem_append_right _ h)); clear hl9; (try dsimp only); (try k_fold)))); (first | (with_reducible show wpAny _ _ (subscriptTail _ _ _ (Value.ref _)) _ _ _) | (with_reducible show wpAny _ _ (setItem _ (Value.ref _) _) _ _ _) | dsimp only | skip)) | ((with_reducible show wpAny _ _ (subscriptTail _ _ _ _) _ _ _); (with_reducible (k_here; with_unfolding_all (refine' signAt ?zqh1 ?_ ?zqh2 ?zqh3; (case zqh1 => with_reducible assumption); (case zqh2 => intro _; rfl); (case zqh3 => intro _; rfl)))); (first | (with_reducible show wpAny _ _ (subscriptTail _ _ _ (Value.ref _)) _ _ _) | (with_reducible show wpAny _ _ (setItem _ (Value.ref _) _) _ _ _) | dsimp only | skip)) | (walk1; (first | (with_reducible show wpAny _ _ (subscriptTail _ _ _ (Value.ref _)) _ _ _) | (with_reducible show wpAny _ _ (setItem _ (Value.ref _) _) _ _ _) | dsimp only | skip)) | (dsimp only; walk1) | (leave1; (try dsimp only)) | fail "no step")
      refine LPost.brk ?_
      repeat' (first | (k_unfold; (try dsimp only)) | (k_end; wrow_close) | ((with_reducible show wpAny _ _ (exec (Stmt.For (PySem.Expr.Name _ _) (PySem.Expr.Subscript _ _ _) (_ :: _) [] _) _) _ _ _); (with_reducible (k_here; refine Halt.out ?_)); (first | (with_reducible show wpAny _ _ (subscriptTail _ _ _ (Value.ref _)) _ _ _) | (with_reducible show wpAny _ _ (setItem _ (Value.ref _) _) _ _ _) | dsimp only | skip)) | ((with_reducible show wpAny _ _ (exec (Stmt.For (PySem.Expr.Name _ _) (PySem.Expr.Name _ _) (_ :: _) [] _) _) _ _ _); (with_reducible (k_here; refine Halt.out ?_)); (first | (with_reducible show wpAny _ _ (subscriptTail _ _ _ (Value.ref _)) _ _ _) | (with_reducible show wpAny _ _ (setItem _ (Value.ref _) _) _ _ _) | dsimp only | skip)) | ((with_reducible show wpAny _ _ (subscriptTail (PySem.Expr.Name _ _) (PySem.Expr.Slice _ _ _ _) (Value.ref _) (Value.ref _)) _ _ _); ((k_here; (with_reducible show wpAny _ _ (subscriptTail _ (PySem.Expr.Slice none none (some _) _) (Value.ref _) (Value.ref _)) _ _ _); k_dflt (refine' krv_lit ?zqF ?zqN ?zql ?zqk ?zqe ?_ ?zqs ?zqt ?zqz; (case zqF => k_asm); (case zqN => k_asm); (case zql => kmk_list); (case zqk => exact IsPart.int _ _); (case zqe => exact rfl); (case zqs => with_unfolding_all rfl); (case zqt => kmk_pure); (case zqz => (rw [sizeLine_eq]; simp only [List.size_toArray, List.length_drop]; omega))); intro D' h' F' N' l1; (try k_lt l1))); (first | (with_reducible show wpAny _ _ (subscriptTail _ _ _ (Value.ref _)) _ _ _) | (with_reducible show wpAny _ _ (setItem _ (Value.ref _) _) _ _ _) | dsimp only | skip)) | ((with_reducible show wpAny _ _ (compareOp CmpOp.NotEq (Value.ref _) (Value.ref _)) _ _ _); (with_reducible (k_here; with_unfolding_all (refine' nePair ?zqh1 ?zqh2 ?zqh3 ?zqh4 ?zqo1 ?zqo2 ?zqo3 ?zqo4 ?zqh5 ?_; (case zqh1 => k_asm); (case zqh2 => k_mem); (case zqh3 => k_mem); (case zqh4 => ktr_units); (case zqo1 => exact okNil); (case zqo2 => first | exact okNil | exact okCode _ | with_reducible assumption); (case zqo3 => exact okNil); (case zqo4 => first | exact okNil | exact okCode _ | with_reducible assumption); (case zqh5 => first | with_reducible assumption | exact signEq | exact signNe (by with_reducible assumption) | exact signNil | exact nilSign | exact nilNil)))); (first | (with_reducible show wpAny _ _ (subscriptTail _ _ _ (Value.ref _)) _ _ _) | (with_reducible show wpAny _ _ (setItem _ (Value.ref _) _) _ _ _) | dsimp only | skip)) | ((with_reducible show wpAny _ _ (call (Value.builtin "str.index") _) _ _ _); (with_reducible (k_here; with_unfolding_all (refine idxPiece (by with_reducible assumption) ?_))); (first | (with_reducible show wpAny _ _ (subscriptTail _ _ _ (Value.ref _)) _ _ _) | (with_reducible show wpAny _ _ (setItem _ (Value.ref _) _) _ _ _) | dsimp only | skip)) | ((with_reducible show wpAny _ _ (getMethod (Value.ref _) _ _) _ _ _); (with_reducible (k_here; with_unfolding_all (refine' pileMeth (name := Str.ofString "part_count") (P := _) (f := .ref 105) (t := .type "function") ?zqh1 ?zqh2 ?zqh3 ?zqh4 ?zqh5 ?zqh6 ?zqh7 ?zqh8 ?zqh9 ?zqh10 ?_; (case zqh1 => k_asm); (case zqh2 => k_asm); (case zqh3 => k_asm); (case zqh4 => k_mem); (case zqh5 => k_mem); (case zqh6 => assumption); (case zqh7 => kernel_rfl); (case zqh8 => kernel_rfl); (case zqh9 => decide +kernel); (case zqh10 => decide +kernel)))); (first | (with_reducible show wpAny _ _ (subscriptTail _ _ _ (Value.ref _)) _ _ _) | (with_reducible show wpAny _ _ (setItem _ (Value.ref _) _) _ _ _) | dsimp only | skip)) | ((with_reducible show wpAny _ _ (getMethod (Value.ref _) _ _) _ _ _); (with_reducible (k_here; with_unfolding_all (refine' pileMeth (name := Str.ofString "pop_from") (P := _) (f := .ref 60) (t := .type "function") ?zqh1 ?zqh2 ?zqh3 ?zqh4 ?zqh5 ?zqh6 ?zqh7 ?zqh8 ?zqh9 ?zqh10 ?_; (case zqh1 => k_asm); (case zqh2 => k_asm); (case zqh3 => k_asm); (case zqh4 => k_mem); (case zqh5 => k_mem); (case zqh6 => assumption); (case zqh7 => kernel_rfl); (case zqh8 => kernel_rfl); (case zqh9 => decide +kernel); (case zqh10 => decide +kernel)))); (first | (with_reducible show wpAny _ _ (subscriptTail _ _ _ (Value.ref _)) _ _ _) | (with_reducible show wpAny _ _ (setItem _ (Value.ref _) _) _ _ _) | dsimp only | skip)) | ((with_reducible show wpAny _ _ (getMethod (Value.ref _) _ _) _ _ _); (with_reducible (k_here; with_unfolding_all (refine' pileMeth (name := Str.ofString "push") (P := _) (f := .ref 52) (t := .type "function") ?zqh1 ?zqh2 ?zqh3 ?zqh4 ?zqh5 ?zqh6 ?zqh7 ?zqh8 ?zqh9 ?zqh10 ?_; (case zqh1 => k_asm); (case zqh2 => k_asm); (case zqh3 => k_asm); (case zqh4 => k_mem); (case zqh5 => k_mem); (case zqh6 => assumption); (case zqh7 => kernel_rfl); (case zqh8 => kernel_rfl); (case zqh9 => decide +kernel); (case zqh10 => decide +kernel)))); (first | (with_reducible show wpAny _ _ (subscriptTail _ _ _ (Value.ref _)) _ _ _) | (with_reducible show wpAny _ _ (setItem _ (Value.ref _) _) _ _ _) | dsimp only | skip)) | ((with_reducible show wpAny _ _ (getMethod (Value.ref _) _ _) _ _ _); (with_reducible (k_here; with_unfolding_all (refine' pileMeth (name := Str.ofString "pop") (P := _) (f := .ref 68) (t := .type "function") ?zqh1 ?zqh2 ?zqh3 ?zqh4 ?zqh5 ?zqh6 ?zqh7 ?zqh8 ?zqh9 ?zqh10 ?_; (case zqh1 => k_asm); (case zqh2 => k_asm); (case zqh3 => k_asm); (case zqh4 => k_mem); (case zqh5 => k_mem); (case zqh6 => assumption); (case zqh7 => kernel_rfl); (case zqh8 => kernel_rfl); (case zqh9 => decide +kernel); (case zqh10 => decide +kernel)))); (first | (with_reducible show wpAny _ _ (subscriptTail _ _ _ (Value.ref _)) _ _ _) | (with_reducible show wpAny _ _ (setItem _ (Value.ref _) _) _ _ _) | dsimp only | skip)) | ((with_reducible show wpAny _ _ (call (Value.builtin "list.index") _) _ _ _); (with_reducible (k_here; with_unfolding_all (refine' idxL ?zqh1 ?zqh2 ?zqh3 ?zqh4 ?_; (case zqh1 => with_reducible assumption); (case zqh2 => with_reducible assumption); (case zqh3 => k_asm); (case zqh4 => k_mem)))); (first | (with_reducible show wpAny _ _ (subscriptTail _ _ _ (Value.ref _)) _ _ _) | (with_reducible show wpAny _ _ (setItem _ (Value.ref _) _) _ _ _) | dsimp only | skip)) | ((with_reducible show wpAny _ _ (subscriptTail _ _ _ _) _ _ _); (with_reducible (k_here; with_unfolding_all (refine' signAt ?zqh1 ?_ ?zqh2 ?zqh3; (case zqh1 => with_reducible assumption); (case zqh2 => intro _; rfl); (case zqh3 => intro _; rfl)))); (first | (with_reducible show wpAny _ _ (subscriptTail _ _ _ (Value.ref _)) _ _ _) | (with_reducible show wpAny _ _ (setItem _ (Value.ref _) _) _ _ _) | dsimp only | skip)) | (walk1; (first | (with_reducible show wpAny _ _ (subscriptTail _ _ _ (Value.ref _)) _ _ _) | (with_reducible show wpAny _ _ (setItem _ (Value.ref _) _) _ _ _) | dsimp only | skip)) | (dsimp only; walk1) | (leave1; (try dsimp only)) | fail "no step")
      have hw : wd = leftN ns := by rw [← runN_fst ns e0, ← hend]
      have he : e = (runN ns e0).2 := by rw [← hend]
      subst he hw
      refine' hret _ _ _ _ ?e0 (newsBack hfull hg' (by assumption) (by assumption) ?e1 hex (fun q h => h)) ⟨_, _, _, _, _, _, _, _, rfl, .head _, .tail _ (.tail _ (.head _)), .tail _ (.tail _ (.tail _ (.head _))), by assumption, hpile.mono ?e2, hents.mono ?e3⟩
      case e0 => k_asm
      case e1 => exact List.forall_mem_cons.mpr ⟨by k_mem, fun q hq => .tail _ (.tail _ (.tail _ (.tail _ (.tail _ (hsub q hq)))))⟩
      case e2 => exact fun q hq => .tail _ (.tail _ (.tail _ (.tail _ (.tail _ hq))))
      case e3 => exact fun q hq => .tail _ (.tail _ (.tail _ (.tail _ (.tail _ hq))))
    · have hs : (256 ≤ sym ∧ sym ≤ 258 ∧ x % 4 = 3 ∧ sym = 256 + x / 4 % 3) ∨ (∃ c, c < 3 ∧ sym = symN c ∧ x % 4 = (c : Int) ∧ 31 ≤ sym ∧ sym ≤ 49) := by
        rw [hsym]; unfold symOf
        have h3 : 0 ≤ x / 4 % 3 ∧ x / 4 % 3 < 3 := ⟨Int.emod_nonneg _ (by decide), Int.emod_lt_of_pos _ (by decide)⟩
        split
        · left; omega
        · split
          · right; exact ⟨0, by decide, rfl, by omega, by decide, by decide⟩
          · split
            · right; exact ⟨1, by decide, rfl, by omega, by decide, by decide⟩
            · right; exact ⟨2, by decide, rfl, by omega, by decide, by decide⟩
      clear hsym
      rcases hs with ⟨s1, s2, s3, s4⟩ | ⟨c, hc, hs, hx4, s1, s2⟩
      · have hmx : (if 0 > (vs.length : Int) - (sym - 256 + 1) then 0 else (vs.length : Int) - (sym - 256 + 1)) = ((wd.length - 1 - (x / 4 % 3).toNat : Nat) : Int) := by
          have hpl := hpile.length
          rw [hpl]
          split <;> omega
        have hil : wd.length - 1 - (x / 4 % 3).toNat ≤ vs.length := by
          have hpl := hpile.length
          omega
        have hvl : vs.length ≤ 12 := by
          have hpl := hpile.length
          have := hgood.len
          omega
        dsimp only at hIp
        repeat' (first | (k_unfold; (try dsimp only)) | (k_end; wrow_close) | ((with_reducible show wpAny _ _ (exec (Stmt.For (PySem.Expr.Name _ _) (PySem.Expr.Subscript _ _ _) (_ :: _) [] _) _) _ _ _); (with_reducible (k_here; refine Halt.out ?_)); (first | (with_reducible show wpAny _ _ (subscriptTail _ _ _ (Value.ref _)) _ _ _) | (with_reducible show wpAny _ _ (setItem _ (Value.ref _) _) _ _ _) | dsimp only | skip)) | ((with_reducible show wpAny _ _ (exec (Stmt.For (PySem.Expr.Name _ _) (PySem.Expr.Name _ _) (_ :: _) [] _) _) _ _ _); (with_reducible (k_here; refine Halt.out ?_)); (first | (with_reducible show wpAny _ _ (subscriptTail _ _ _ (Value.ref _)) _ _ _) | (with_reducible show wpAny _ _ (setItem _ (Value.ref _) _) _ _ _) | dsimp only | skip)) | ((with_reducible show wpAny _ _ (subscriptTail (PySem.Expr.Name _ _) (PySem.Expr.Slice _ _ _ _) (Value.ref _) (Value.ref _)) _ _ _); ((k_here; (with_reducible show wpAny _ _ (subscriptTail _ (PySem.Expr.Slice none none (some _) _) (Value.ref _) (Value.ref _)) _ _ _); k_dflt (refine' krv_lit ?zqF ?zqN ?zql ?zqk ?zqe ?_ ?zqs ?zqt ?zqz; (case zqF => k_asm); (case zqN => k_asm); (case zql => kmk_list); (case zqk => exact IsPart.int _ _); (case zqe => exact rfl); (case zqs => with_unfolding_all rfl); (case zqt => kmk_pure); (case zqz => (rw [sizeLine_eq]; simp only [List.size_toArray, List.length_drop]; omega))); intro D' h' F' N' l1; (try k_lt l1))); (first | (with_reducible show wpAny _ _ (subscriptTail _ _ _ (Value.ref _)) _ _ _) | (with_reducible show wpAny _ _ (setItem _ (Value.ref _) _) _ _ _) | dsimp only | skip)) | ((with_reducible show wpAny _ _ (compareOp CmpOp.NotEq (Value.ref _) (Value.ref _)) _ _ _); (with_reducible (k_here; with_unfolding_all (refine' nePair ?zqh1 ?zqh2 ?zqh3 ?zqh4 ?zqo1 ?zqo2 ?zqo3 ?zqo4 ?zqh5 ?_; (case zqh1 => k_asm); (case zqh2 => k_mem); (case zqh3 => k_mem); (case zqh4 => ktr_units); (case zqo1 => exact okNil); (case zqo2 => first | exact okNil | exact okCode _ | with_reducible assumption); (case zqo3 => exact okNil); (case zqo4 => first | exact okNil | exact okCode _ | with_reducible assumption); (case zqh5 => first | with_reducible assumption | exact signEq | exact signNe (by with_reducible assumption) | exact signNil | exact nilSign | exact nilNil)))); (first | (with_reducible show wpAny _ _ (subscriptTail _ _ _ (Value.ref _)) _ _ _) | (with_reducible show wpAny _ _ (setItem _ (Value.ref _) _) _ _ _) | dsimp only | skip)) | ((with_reducible show wpAny _ _ (call (Value.builtin "str.index") _) _ _ _); (with_reducible (k_here; with_unfolding_all (refine idxPiece (by with_reducible assumption) ?_))); (first | (with_reducible show wpAny _ _ (subscriptTail _ _ _ (Value.ref _)) _ _ _) | (with_reducible show wpAny _ _ (setItem _ (Value.ref _) _) _ _ _) | dsimp only | skip)) | ((with_reducible show wpAny _ _ (call (Value.ref _) _) _ _ _); ((k_here; (with_reducible show wpAny _ _ (call (Value.ref 60) [Value.ref _, Value.int _ _]) _ _ _); with_unfolding_all ( refine' cutInt ?zqe (DoesTo.use (cut_does _ _ _ _ _ _ _ _ _ _ _ ?zqa1 ?zqa2 ?zqai ?zqa3) ?zqk1 ?zqk2 ?zqk3 ?zqk4 ?zqk5 ?zqk6 ?zqkU ?zqk7 ?zqk8 ?zqk9 ?_); (case zqe => with_reducible assumption); (case zqk1 => k_asm); (case zqk2 => k_asm); (case zqk3 => k_asm); (case zqk4 => k_asm); (case zqk5 => k_asm); (case zqk6 => first | exact rfl | assumption); (case zqkU => (first | (refine' UpdF.head ?_; with_reducible assumption) | (refine' UpdF.tail ?zu8 ?zv8; (case zu8 => k_ne); (case zv8 => (first | (refine' UpdF.head ?_; with_reducible assumption) | (refine' UpdF.tail ?zu7 ?zv7; (case zu7 => k_ne); (case zv7 => (first | (refine' UpdF.head ?_; with_reducible assumption) | (refine' UpdF.tail ?zu6 ?zv6; (case zu6 => k_ne); (case zv6 => (first | (refine' UpdF.head ?_; with_reducible assumption) | (refine' UpdF.tail ?zu5 ?zv5; (case zu5 => k_ne); (case zv5 => (first | (refine' UpdF.head ?_; with_reducible assumption) | (refine' UpdF.tail ?zu4 ?zv4; (case zu4 => k_ne); (case zv4 => (first | (refine' UpdF.head ?_; with_reducible assumption) | (refine' UpdF.tail ?zu3 ?zv3; (case zu3 => k_ne); (case zv3 => (first | (refine' UpdF.head ?_; with_reducible assumption) | (refine' UpdF.tail ?zu2 ?zv2; (case zu2 => k_ne); (case zv2 => (first | (refine' UpdF.head ?_; with_reducible assumption) | (refine' UpdF.tail ?zu1 ?zv1; (case zu1 => k_ne); (case zv1 => (refine' UpdF.head ?_; with_reducible assumption)))))))))))))))))))))))))); (case zqk7 => (repeat' (first | exact List.forall_mem_nil _ | refine List.forall_mem_cons.mpr ⟨by k_mem, ?_⟩))); (case zqa1 => assumption); (case zqa2 => with_reducible assumption); (case zqai => with_reducible assumption); (case zqa3 => with_reducible assumption); (case zqk8 => ktr_room); (case zqk9 => ktr_units); intro r9 tl9 o9 h9 tk9 F9 N9 ap9 out9; obtain ⟨c9, n9, n8, e9, eo9, hm9⟩ := out9; subst e9 eo9; (have l9 := apartOf ap9 hm9); (dsimp only [NeAll] at l9); (replace N9 := newsPick (less := (c9, _) :: _) N9 (List.forall_mem_cons.mpr ⟨List.mem_append_left _ hm9, fun _ h => List.mem_append_right _ h⟩)); clear ap9 hm9; (try dsimp only at N9); skip))); (first | (with_reducible show wpAny _ _ (subscriptTail _ _ _ (Value.ref _)) _ _ _) | (with_reducible show wpAny _ _ (setItem _ (Value.ref _) _) _ _ _) | dsimp only | skip)) | ((with_reducible show wpAny _ _ (call (Value.ref _) _) _ _ _); (with_reducible (k_here; (with_reducible show wpAny _ _ (call (Value.ref 105) _) _ _ _); with_unfolding_all ( refine' Does.use (count_pile _ _ _ _ _ _ _ _ _) ?zqk1 ?zqk2 ?zqk3 ?zqk4 ?zqk5 ?zqk6 ?zqk7 ?zqk8 ?zqk9 ?_; (case zqk1 => k_asm); (case zqk2 => k_asm); (case zqk3 => k_asm); (case zqk4 => k_asm); (case zqk5 => k_asm); (case zqk6 => first | exact rfl | assumption); (case zqk7 => (repeat' (first | exact List.forall_mem_nil _ | refine List.forall_mem_cons.mpr ⟨by k_mem, ?_⟩)));  (case zqk8 => ktr_room); (case zqk9 => ktr_units); intro r9 tl9 h9 tk9 F9 N9 hl9 ho9; obtain ⟨t9, e9⟩ := ho9; subst e9; (replace N9 := newsPick (less := _) N9 (fun _ h => List.mem_append_right _ h)); clear hl9; (try dsimp only); (try k_fold)))); (first | (with_reducible show wpAny _ _ (subscriptTail _ _ _ (Value.ref _)) _ _ _) | (with_reducible show wpAny _ _ (setItem _ (Value.ref _) _) _ _ _) | dsimp only | skip)) | ((with_reducible show wpAny _ _ (getMethod (Value.ref _) _ _) _ _ _); (with_reducible (k_here; with_unfolding_all (refine' pileMeth (name := Str.ofString "part_count") (P := _) (f := .ref 105) (t := .type "function") ?zqh1 ?zqh2 ?zqh3 ?zqh4 ?zqh5 ?zqh6 ?zqh7 ?zqh8 ?zqh9 ?zqh10 ?_; (case zqh1 => k_asm); (case zqh2 => k_asm); (case zqh3 => k_asm); (case zqh4 => k_mem); (case zqh5 => k_mem); (case zqh6 => assumption); (case zqh7 => kernel_rfl); (case zqh8 => kernel_rfl); (case zqh9 => decide +kernel); (case zqh10 => decide +kernel)))); (first | (with_reducible show wpAny _ _ (subscriptTail _ _ _ (Value.ref _)) _ _ _) | (with_reducible show wpAny _ _ (setItem _ (Value.ref _) _) _ _ _) | dsimp only | skip)) | ((with_reducible show wpAny _ _ (getMethod (Value.ref _) _ _) _ _ _); (with_reducible (k_here; with_unfolding_all (refine' pileMeth (name := Str.ofString "pop_from") (P := _) (f := .ref 60) (t := .type "function") ?zqh1 ?zqh2 ?zqh3 ?zqh4 ?zqh5 ?zqh6 ?zqh7 ?zqh8 ?zqh9 ?zqh10 ?_; (case zqh1 => k_asm); (case zqh2 => k_asm); (case zqh3 => k_asm); (case zqh4 => k_mem); (case zqh5 => k_mem); (case zqh6 => assumption); (case zqh7 => kernel_rfl); (case zqh8 => kernel_rfl); (case zqh9 => decide +kernel); (case zqh10 => decide +kernel)))); (first | (with_reducible show wpAny _ _ (subscriptTail _ _ _ (Value.ref _)) _ _ _) | (with_reducible show wpAny _ _ (setItem _ (Value.ref _) _) _ _ _) | dsimp only | skip)) | ((with_reducible show wpAny _ _ (getMethod (Value.ref _) _ _) _ _ _); (with_reducible (k_here; with_unfolding_all (refine' pileMeth (name := Str.ofString "push") (P := _) (f := .ref 52) (t := .type "function") ?zqh1 ?zqh2 ?zqh3 ?zqh4 ?zqh5 ?zqh6 ?zqh7 ?zqh8 ?zqh9 ?zqh10 ?_; (case zqh1 => k_asm); (case zqh2 => k_asm); (case zqh3 => k_asm); (case zqh4 => k_mem); (case zqh5 => k_mem); (case zqh6 => assumption); (case zqh7 => kernel_rfl); (case zqh8 => kernel_rfl); (case zqh9 => decide +kernel); (case zqh10 => decide +kernel)))); (first | (with_reducible show wpAny _ _ (subscriptTail _ _ _ (Value.ref _)) _ _ _) | (with_reducible show wpAny _ _ (setItem _ (Value.ref _) _) _ _ _) | dsimp only | skip)) | ((with_reducible show wpAny _ _ (getMethod (Value.ref _) _ _) _ _ _); (with_reducible (k_here; with_unfolding_all (refine' pileMeth (name := Str.ofString "pop") (P := _) (f := .ref 68) (t := .type "function") ?zqh1 ?zqh2 ?zqh3 ?zqh4 ?zqh5 ?zqh6 ?zqh7 ?zqh8 ?zqh9 ?zqh10 ?_; (case zqh1 => k_asm); (case zqh2 => k_asm); (case zqh3 => k_asm); (case zqh4 => k_mem); (case zqh5 => k_mem); (case zqh6 => assumption); (case zqh7 => kernel_rfl); (case zqh8 => kernel_rfl); (case zqh9 => decide +kernel); (case zqh10 => decide +kernel)))); (first | (with_reducible show wpAny _ _ (subscriptTail _ _ _ (Value.ref _)) _ _ _) | (with_reducible show wpAny _ _ (setItem _ (Value.ref _) _) _ _ _) | dsimp only | skip)) | ((with_reducible show wpAny _ _ (call (Value.builtin "list.index") _) _ _ _); (with_reducible (k_here; with_unfolding_all (refine' idxL ?zqh1 ?zqh2 ?zqh3 ?zqh4 ?_; (case zqh1 => with_reducible assumption); (case zqh2 => with_reducible assumption); (case zqh3 => k_asm); (case zqh4 => k_mem)))); (first | (with_reducible show wpAny _ _ (subscriptTail _ _ _ (Value.ref _)) _ _ _) | (with_reducible show wpAny _ _ (setItem _ (Value.ref _) _) _ _ _) | dsimp only | skip)) | ((with_reducible show wpAny _ _ (call (Value.ref _) _) _ _ _); (with_reducible (k_here; (with_reducible show wpAny _ _ (call (Value.ref 150) _) _ _ _); with_unfolding_all ( refine' Does.use (isnon_does _ _ _ _ _ _) ?zqk1 ?zqk2 ?zqk3 ?zqk4 ?zqk5 ?zqk6 ?zqk7 ?zqk8 ?zqk9 ?_; (case zqk1 => k_asm); (case zqk2 => k_asm); (case zqk3 => k_asm); (case zqk4 => k_asm); (case zqk5 => k_asm); (case zqk6 => first | exact rfl | assumption); (case zqk7 => (repeat' (first | exact List.forall_mem_nil _ | refine List.forall_mem_cons.mpr ⟨by k_mem, ?_⟩)));  (case zqk8 => ktr_room); (case zqk9 => ktr_units); intro r9 tl9 h9 tk9 F9 N9 hl9 ho9; subst ho9; (replace N9 := newsPick (less := _) N9 (fun _ h => List.mem_append_right _ h)); clear hl9; (try dsimp only); (try k_fold)))); (first | (with_reducible show wpAny _ _ (subscriptTail _ _ _ (Value.ref _)) _ _ _) | (with_reducible show wpAny _ _ (setItem _ (Value.ref _) _) _ _ _) | dsimp only | skip)) | ((with_reducible show wpAny _ _ (call (Value.ref _) _) _ _ _); (with_reducible (k_here; (with_reducible show wpAny _ _ (call (Value.ref 157) _) _ _ _); with_unfolding_all ( refine' Does.use (iseof_does _ _ _ _ _ _) ?zqk1 ?zqk2 ?zqk3 ?zqk4 ?zqk5 ?zqk6 ?zqk7 ?zqk8 ?zqk9 ?_; (case zqk1 => k_asm); (case zqk2 => k_asm); (case zqk3 => k_asm); (case zqk4 => k_asm); (case zqk5 => k_asm); (case zqk6 => first | exact rfl | assumption); (case zqk7 => (repeat' (first | exact List.forall_mem_nil _ | refine List.forall_mem_cons.mpr ⟨by k_mem, ?_⟩)));  (case zqk8 => ktr_room); (case zqk9 => ktr_units); intro r9 tl9 h9 tk9 F9 N9 hl9 ho9; subst ho9; (replace N9 := newsPick (less := _) N9 (fun _ h => List.mem_append_right _ h)); clear hl9; (try dsimp only); (try k_fold)))); (first | (with_reducible show wpAny _ _ (subscriptTail _ _ _ (Value.ref _)) _ _ _) | (with_reducible show wpAny _ _ (setItem _ (Value.ref _) _) _ _ _) | dsimp only | skip)) | ((with_reducible show wpAny _ _ (subscriptTail _ _ _ _) _ _ _); (with_reducible (k_here; with_unfolding_all (refine' signAt ?zqh1 ?_ ?zqh2 ?zqh3; (case zqh1 => with_reducible assumption); (case zqh2 => intro _; rfl); (case zqh3 => intro _; rfl)))); (first | (with_reducible show wpAny _ _ (subscriptTail _ _ _ (Value.ref _)) _ _ _) | (with_reducible show wpAny _ _ (setItem _ (Value.ref _) _) _ _ _) | dsimp only | skip)) | (walk1; (first | (with_reducible show wpAny _ _ (subscriptTail _ _ _ (Value.ref _)) _ _ _) | (with_reducible show wpAny _ _ (setItem _ (Value.ref _) _) _ _ _) | dsimp only | skip)) | (dsimp only; walk1) | (leave1; (try dsimp only)) | fail "no step")
        · exfalso; omega
        · refine Halt.go ?_
          rename News _ _ _ _ => N3
          rename Fr _ _ _ _ => F3
          with_unfolding_all refine' For_invVF F3 ?k1 ?k2 ?_
          (case k1 => exact rfl)
          (case k2 => exact rfl)
          k_whole
          clear N2 F2
          repeat' (first | (k_unfold; (try dsimp only)) | (k_end; wrow_close) | ((with_reducible show wpAny _ _ (exec (Stmt.For (PySem.Expr.Name _ _) (PySem.Expr.Subscript _ _ _) (_ :: _) [] _) _) _ _ _); (with_reducible (k_here; refine Halt.out ?_)); (first | (with_reducible show wpAny _ _ (subscriptTail _ _ _ (Value.ref _)) _ _ _) | (with_reducible show wpAny _ _ (setItem _ (Value.ref _) _) _ _ _) | dsimp only | skip)) | ((with_reducible show wpAny _ _ (exec (Stmt.For (PySem.Expr.Name _ _) (PySem.Expr.Name _ _) (_ :: _) [] _) _) _ _ _); (with_reducible (k_here; refine Halt.out ?_)); (first | (with_reducible show wpAny _ _ (subscriptTail _ _ _ (Value.ref _)) _ _ _) | (with_reducible show wpAny _ _ (setItem _ (Value.ref _) _) _ _ _) | dsimp only | skip)) | ((with_reducible show wpAny _ _ (subscriptTail (PySem.Expr.Name _ _) (PySem.Expr.Slice _ _ _ _) (Value.ref _) (Value.ref _)) _ _ _); ((k_here; (with_reducible show wpAny _ _ (subscriptTail _ (PySem.Expr.Slice none none (some _) _) (Value.ref _) (Value.ref _)) _ _ _); k_dflt (refine' krv_lit ?zqF ?zqN ?zql ?zqk ?zqe ?_ ?zqs ?zqt ?zqz; (case zqF => k_asm); (case zqN => k_asm); (case zql => kmk_list); (case zqk => exact IsPart.int _ _); (case zqe => exact rfl); (case zqs => with_unfolding_all rfl); (case zqt => kmk_pure); (case zqz => (rw [sizeLine_eq]; simp only [List.size_toArray, List.length_drop]; omega))); intro D' h' F' N' l1; (try k_lt l1))); (first | (with_reducible show wpAny _ _ (subscriptTail _ _ _ (Value.ref _)) _ _ _) | (with_reducible show wpAny _ _ (setItem _ (Value.ref _) _) _ _ _) | dsimp only | skip)) | ((with_reducible show wpAny _ _ (compareOp CmpOp.NotEq (Value.ref _) (Value.ref _)) _ _ _); (with_reducible (k_here; with_unfolding_all (refine' nePair ?zqh1 ?zqh2 ?zqh3 ?zqh4 ?zqo1 ?zqo2 ?zqo3 ?zqo4 ?zqh5 ?_; (case zqh1 => k_asm); (case zqh2 => k_mem); (case zqh3 => k_mem); (case zqh4 => ktr_units); (case zqo1 => exact okNil); (case zqo2 => first | exact okNil | exact okCode _ | with_reducible assumption); (case zqo3 => exact okNil); (case zqo4 => first | exact okNil | exact okCode _ | with_reducible assumption); (case zqh5 => first | with_reducible assumption | exact signEq | exact signNe (by with_reducible assumption) | exact signNil | exact nilSign | exact nilNil)))); (first | (with_reducible show wpAny _ _ (subscriptTail _ _ _ (Value.ref _)) _ _ _) | (with_reducible show wpAny _ _ (setItem _ (Value.ref _) _) _ _ _) | dsimp only | skip)) | ((with_reducible show wpAny _ _ (call (Value.builtin "str.index") _) _ _ _); (with_reducible (k_here; with_unfolding_all (refine idxPiece (by with_reducible assumption) ?_))); (first | (with_reducible show wpAny _ _ (subscriptTail _ _ _ (Value.ref _)) _ _ _) | (with_reducible show wpAny _ _ (setItem _ (Value.ref _) _) _ _ _) | dsimp only | skip)) | ((with_reducible show wpAny _ _ (getMethod (Value.ref _) _ _) _ _ _); (with_reducible (k_here; with_unfolding_all (refine' pileMeth (name := Str.ofString "part_count") (P := _) (f := .ref 105) (t := .type "function") ?zqh1 ?zqh2 ?zqh3 ?zqh4 ?zqh5 ?zqh6 ?zqh7 ?zqh8 ?zqh9 ?zqh10 ?_; (case zqh1 => k_asm); (case zqh2 => k_asm); (case zqh3 => k_asm); (case zqh4 => k_mem); (case zqh5 => k_mem); (case zqh6 => assumption); (case zqh7 => kernel_rfl); (case zqh8 => kernel_rfl); (case zqh9 => decide +kernel); (case zqh10 => decide +kernel)))); (first | (with_reducible show wpAny _ _ (subscriptTail _ _ _ (Value.ref _)) _ _ _) | (with_reducible show wpAny _ _ (setItem _ (Value.ref _) _) _ _ _) | dsimp only | skip)) | ((with_reducible show wpAny _ _ (getMethod (Value.ref _) _ _) _ _ _); (with_reducible (k_here; with_unfolding_all (refine' pileMeth (name := Str.ofString "pop_from") (P := _) (f := .ref 60) (t := .type "function") ?zqh1 ?zqh2 ?zqh3 ?zqh4 ?zqh5 ?zqh6 ?zqh7 ?zqh8 ?zqh9 ?zqh10 ?_; (case zqh1 => k_asm); (case zqh2 => k_asm); (case zqh3 => k_asm); (case zqh4 => k_mem); (case zqh5 => k_mem); (case zqh6 => assumption); (case zqh7 => kernel_rfl); (case zqh8 => kernel_rfl); (case zqh9 => decide +kernel); (case zqh10 => decide +kernel)))); (first | (with_reducible show wpAny _ _ (subscriptTail _ _ _ (Value.ref _)) _ _ _) | (with_reducible show wpAny _ _ (setItem _ (Value.ref _) _) _ _ _) | dsimp only | skip)) | ((with_reducible show wpAny _ _ (getMethod (Value.ref _) _ _) _ _ _); (with_reducible (k_here; with_unfolding_all (refine' pileMeth (name := Str.ofString "push") (P := _) (f := .ref 52) (t := .type "function") ?zqh1 ?zqh2 ?zqh3 ?zqh4 ?zqh5 ?zqh6 ?zqh7 ?zqh8 ?zqh9 ?zqh10 ?_; (case zqh1 => k_asm); (case zqh2 => k_asm); (case zqh3 => k_asm); (case zqh4 => k_mem); (case zqh5 => k_mem); (case zqh6 => assumption); (case zqh7 => kernel_rfl); (case zqh8 => kernel_rfl); (case zqh9 => decide +kernel); (case zqh10 => decide +kernel)))); (first | (with_reducible show wpAny _ _ (subscriptTail _ _ _ (Value.ref _)) _ _ _) | (with_reducible show wpAny _ _ (setItem _ (Value.ref _) _) _ _ _) | dsimp only | skip)) | ((with_reducible show wpAny _ _ (getMethod (Value.ref _) _ _) _ _ _); (with_reducible (k_here; with_unfolding_all (refine' pileMeth (name := Str.ofString "pop") (P := _) (f := .ref 68) (t := .type "function") ?zqh1 ?zqh2 ?zqh3 ?zqh4 ?zqh5 ?zqh6 ?zqh7 ?zqh8 ?zqh9 ?zqh10 ?_; (case zqh1 => k_asm); (case zqh2 => k_asm); (case zqh3 => k_asm); (case zqh4 => k_mem); (case zqh5 => k_mem); (case zqh6 => assumption); (case zqh7 => kernel_rfl); (case zqh8 => kernel_rfl); (case zqh9 => decide +kernel); (case zqh10 => decide +kernel)))); (first | (with_reducible show wpAny _ _ (subscriptTail _ _ _ (Value.ref _)) _ _ _) | (with_reducible show wpAny _ _ (setItem _ (Value.ref _) _) _ _ _) | dsimp only | skip)) | ((with_reducible show wpAny _ _ (call (Value.builtin "list.index") _) _ _ _); (with_reducible (k_here; with_unfolding_all (refine' idxL ?zqh1 ?zqh2 ?zqh3 ?zqh4 ?_; (case zqh1 => with_reducible assumption); (case zqh2 => with_reducible assumption); (case zqh3 => k_asm); (case zqh4 => k_mem)))); (first | (with_reducible show wpAny _ _ (subscriptTail _ _ _ (Value.ref _)) _ _ _) | (with_reducible show wpAny _ _ (setItem _ (Value.ref _) _) _ _ _) | dsimp only | skip)) | ((with_reducible show wpAny _ _ (subscriptTail _ _ _ _) _ _ _); (with_reducible (k_here; with_unfolding_all (refine' signAt ?zqh1 ?_ ?zqh2 ?zqh3; (case zqh1 => with_reducible assumption); (case zqh2 => intro _; rfl); (case zqh3 => intro _; rfl)))); (first | (with_reducible show wpAny _ _ (subscriptTail _ _ _ (Value.ref _)) _ _ _) | (with_reducible show wpAny _ _ (setItem _ (Value.ref _) _) _ _ _) | dsimp only | skip)) | (walk1; (first | (with_reducible show wpAny _ _ (subscriptTail _ _ _ (Value.ref _)) _ _ _) | (with_reducible show wpAny _ _ (setItem _ (Value.ref _) _) _ _ _) | dsimp only | skip)) | (dsimp only; walk1) | (leave1; (try dsimp only)) | fail "no step")
          rename News _ _ _ _ => N4
          rename Fr _ _ _ _ => F4
          with_unfolding_all refine' pieceLoop (hpile.drop _).reverse (fun k hk => hgood.sg k (List.mem_of_mem_drop (List.mem_reverse.mp hk))) hents (neTail (neTail (neTail hI))) hnp ?hh F4 N4 ?hent ?turn ?done
          case hh => rfl
          case hent => rfl
          case turn =>
            clear F3 N3 F4 N4
            intro k t n t1 t2 c u h tk J oJ Inv2 hk hm hok hJ hInv2 F5 N5
            obtain ⟨v1, e1, R1⟩ := c
            obtain ⟨hsub1, hents1, hI1, hp1⟩ := hok
            dsimp only [pieceLed] at hm hsub1 hents1 hI1 hp1 hJ hInv2 F5 N5
            have hp3 := placeOf_lt k
            replace N5 := newsPick (less := (t, tupOf [.str sNil t1, .str ⟨#[k]⟩ t2] n) :: _) N5 (List.forall_mem_cons.mpr ⟨List.Mem.tail _ (.tail _ (.tail _ (.tail _ (.tail _ (.tail _ (.tail _ hm)))))), fun q hq => hq⟩)
            repeat' (first | (k_unfold; (try dsimp only)) | (k_end; wrow_close) | ((with_reducible show wpAny _ _ (exec (Stmt.For (PySem.Expr.Name _ _) (PySem.Expr.Subscript _ _ _) (_ :: _) [] _) _) _ _ _); (with_reducible (k_here; refine Halt.out ?_)); (first | (with_reducible show wpAny _ _ (subscriptTail _ _ _ (Value.ref _)) _ _ _) | (with_reducible show wpAny _ _ (setItem _ (Value.ref _) _) _ _ _) | dsimp only | skip)) | ((with_reducible show wpAny _ _ (exec (Stmt.For (PySem.Expr.Name _ _) (PySem.Expr.Name _ _) (_ :: _) [] _) _) _ _ _); (with_reducible (k_here; refine Halt.out ?_)); (first | (with_reducible show wpAny _ _ (subscriptTail _ _ _ (Value.ref _)) _ _ _) | (with_reducible show wpAny _ _ (setItem _ (Value.ref _) _) _ _ _) | dsimp only | skip)) | ((with_reducible show wpAny _ _ (subscriptTail (PySem.Expr.Name _ _) (PySem.Expr.Slice _ _ _ _) (Value.ref _) (Value.ref _)) _ _ _); ((k_here; (with_reducible show wpAny _ _ (subscriptTail _ (PySem.Expr.Slice none none (some _) _) (Value.ref _) (Value.ref _)) _ _ _); k_dflt (refine' krv_lit ?zqF ?zqN ?zql ?zqk ?zqe ?_ ?zqs ?zqt ?zqz; (case zqF => k_asm); (case zqN => k_asm); (case zql => kmk_list); (case zqk => exact IsPart.int _ _); (case zqe => exact rfl); (case zqs => with_unfolding_all rfl); (case zqt => kmk_pure); (case zqz => (rw [sizeLine_eq]; simp only [List.size_toArray, List.length_drop]; omega))); intro D' h' F' N' l1; (try k_lt l1))); (first | (with_reducible show wpAny _ _ (subscriptTail _ _ _ (Value.ref _)) _ _ _) | (with_reducible show wpAny _ _ (setItem _ (Value.ref _) _) _ _ _) | dsimp only | skip)) | ((with_reducible show wpAny _ _ (compareOp CmpOp.NotEq (Value.ref _) (Value.ref _)) _ _ _); (with_reducible (k_here; with_unfolding_all (refine' nePair ?zqh1 ?zqh2 ?zqh3 ?zqh4 ?zqo1 ?zqo2 ?zqo3 ?zqo4 ?zqh5 ?_; (case zqh1 => k_asm); (case zqh2 => k_mem); (case zqh3 => k_mem); (case zqh4 => ktr_units); (case zqo1 => exact okNil); (case zqo2 => first | exact okNil | exact okCode _ | with_reducible assumption); (case zqo3 => exact okNil); (case zqo4 => first | exact okNil | exact okCode _ | with_reducible assumption); (case zqh5 => first | with_reducible assumption | exact signEq | exact signNe (by with_reducible assumption) | exact signNil | exact nilSign | exact nilNil)))); (first | (with_reducible show wpAny _ _ (subscriptTail _ _ _ (Value.ref _)) _ _ _) | (with_reducible show wpAny _ _ (setItem _ (Value.ref _) _) _ _ _) | dsimp only | skip)) | ((with_reducible show wpAny _ _ (call (Value.builtin "str.index") _) _ _ _); (with_reducible (k_here; with_unfolding_all (refine idxPiece (by with_reducible assumption) ?_))); (first | (with_reducible show wpAny _ _ (subscriptTail _ _ _ (Value.ref _)) _ _ _) | (with_reducible show wpAny _ _ (setItem _ (Value.ref _) _) _ _ _) | dsimp only | skip)) | ((with_reducible show wpAny _ _ (call (Value.ref _) _) _ _ _); (with_reducible (k_here; (with_reducible show wpAny _ _ (call (Value.ref 197) _) _ _ _); with_unfolding_all ( refine' turned_open (lit := [_, _, _, _, _, _, _, _]) ?zqh1 ?zqh2 ?zqh3 ?zqh4 ?zqh5 ?zqh6 ?zqh7 ?zqh8 ?zqh9 ?zqh10 ?_; (case zqh1 => with_reducible assumption); (case zqh2 => with_reducible assumption); (case zqh3 => k_asm); (case zqh4 => k_asm); (case zqh5 => k_asm); (case zqh6 => k_asm); (case zqh7 => k_asm); (case zqh8 => first | exact rfl | assumption); (case zqh9 => ktr_room); (case zqh10 => ktr_units); intro r9 R9 h9 tk9 F9 N9 sub9 off9 E9; (try dsimp only [List.cons_append, List.nil_append] at N9)))); (first | (with_reducible show wpAny _ _ (subscriptTail _ _ _ (Value.ref _)) _ _ _) | (with_reducible show wpAny _ _ (setItem _ (Value.ref _) _) _ _ _) | dsimp only | skip)) | ((with_reducible show wpAny _ _ (getMethod (Value.ref _) _ _) _ _ _); (with_reducible (k_here; with_unfolding_all (refine' pileMeth (name := Str.ofString "part_count") (P := _) (f := .ref 105) (t := .type "function") ?zqh1 ?zqh2 ?zqh3 ?zqh4 ?zqh5 ?zqh6 ?zqh7 ?zqh8 ?zqh9 ?zqh10 ?_; (case zqh1 => k_asm); (case zqh2 => k_asm); (case zqh3 => k_asm); (case zqh4 => k_mem); (case zqh5 => k_mem); (case zqh6 => assumption); (case zqh7 => kernel_rfl); (case zqh8 => kernel_rfl); (case zqh9 => decide +kernel); (case zqh10 => decide +kernel)))); (first | (with_reducible show wpAny _ _ (subscriptTail _ _ _ (Value.ref _)) _ _ _) | (with_reducible show wpAny _ _ (setItem _ (Value.ref _) _) _ _ _) | dsimp only | skip)) | ((with_reducible show wpAny _ _ (getMethod (Value.ref _) _ _) _ _ _); (with_reducible (k_here; with_unfolding_all (refine' pileMeth (name := Str.ofString "pop_from") (P := _) (f := .ref 60) (t := .type "function") ?zqh1 ?zqh2 ?zqh3 ?zqh4 ?zqh5 ?zqh6 ?zqh7 ?zqh8 ?zqh9 ?zqh10 ?_; (case zqh1 => k_asm); (case zqh2 => k_asm); (case zqh3 => k_asm); (case zqh4 => k_mem); (case zqh5 => k_mem); (case zqh6 => assumption); (case zqh7 => kernel_rfl); (case zqh8 => kernel_rfl); (case zqh9 => decide +kernel); (case zqh10 => decide +kernel)))); (first | (with_reducible show wpAny _ _ (subscriptTail _ _ _ (Value.ref _)) _ _ _) | (with_reducible show wpAny _ _ (setItem _ (Value.ref _) _) _ _ _) | dsimp only | skip)) | ((with_reducible show wpAny _ _ (getMethod (Value.ref _) _ _) _ _ _); (with_reducible (k_here; with_unfolding_all (refine' pileMeth (name := Str.ofString "push") (P := _) (f := .ref 52) (t := .type "function") ?zqh1 ?zqh2 ?zqh3 ?zqh4 ?zqh5 ?zqh6 ?zqh7 ?zqh8 ?zqh9 ?zqh10 ?_; (case zqh1 => k_asm); (case zqh2 => k_asm); (case zqh3 => k_asm); (case zqh4 => k_mem); (case zqh5 => k_mem); (case zqh6 => assumption); (case zqh7 => kernel_rfl); (case zqh8 => kernel_rfl); (case zqh9 => decide +kernel); (case zqh10 => decide +kernel)))); (first | (with_reducible show wpAny _ _ (subscriptTail _ _ _ (Value.ref _)) _ _ _) | (with_reducible show wpAny _ _ (setItem _ (Value.ref _) _) _ _ _) | dsimp only | skip)) | ((with_reducible show wpAny _ _ (getMethod (Value.ref _) _ _) _ _ _); (with_reducible (k_here; with_unfolding_all (refine' pileMeth (name := Str.ofString "pop") (P := _) (f := .ref 68) (t := .type "function") ?zqh1 ?zqh2 ?zqh3 ?zqh4 ?zqh5 ?zqh6 ?zqh7 ?zqh8 ?zqh9 ?zqh10 ?_; (case zqh1 => k_asm); (case zqh2 => k_asm); (case zqh3 => k_asm); (case zqh4 => k_mem); (case zqh5 => k_mem); (case zqh6 => assumption); (case zqh7 => kernel_rfl); (case zqh8 => kernel_rfl); (case zqh9 => decide +kernel); (case zqh10 => decide +kernel)))); (first | (with_reducible show wpAny _ _ (subscriptTail _ _ _ (Value.ref _)) _ _ _) | (with_reducible show wpAny _ _ (setItem _ (Value.ref _) _) _ _ _) | dsimp only | skip)) | ((with_reducible show wpAny _ _ (call (Value.builtin "list.index") _) _ _ _); (with_reducible (k_here; with_unfolding_all (refine' idxL ?zqh1 ?zqh2 ?zqh3 ?zqh4 ?_; (case zqh1 => with_reducible assumption); (case zqh2 => with_reducible assumption); (case zqh3 => k_asm); (case zqh4 => k_mem)))); (first | (with_reducible show wpAny _ _ (subscriptTail _ _ _ (Value.ref _)) _ _ _) | (with_reducible show wpAny _ _ (setItem _ (Value.ref _) _) _ _ _) | dsimp only | skip)) | ((with_reducible show wpAny _ _ (call (Value.ref _) _) _ _ _); (with_reducible (k_here; (with_reducible show wpAny _ _ (call (Value.ref 197) _) _ _ _); with_unfolding_all ( refine' turned_open (lit := [_, _, _, _, _]) ?zqh1 ?zqh2 ?zqh3 ?zqh4 ?zqh5 ?zqh6 ?zqh7 ?zqh8 ?zqh9 ?zqh10 ?_; (case zqh1 => with_reducible assumption); (case zqh2 => with_reducible assumption); (case zqh3 => k_asm); (case zqh4 => k_asm); (case zqh5 => k_asm); (case zqh6 => k_asm); (case zqh7 => k_asm); (case zqh8 => first | exact rfl | assumption); (case zqh9 => ktr_room); (case zqh10 => ktr_units); intro r9 R9 h9 tk9 F9 N9 sub9 off9 E9; (try dsimp only [List.cons_append, List.nil_append] at N9); (have up9 := upGrow (by assumption) (by k_mem) off9)))); (first | (with_reducible show wpAny _ _ (subscriptTail _ _ _ (Value.ref _)) _ _ _) | (with_reducible show wpAny _ _ (setItem _ (Value.ref _) _) _ _ _) | dsimp only | skip)) | ((with_reducible show wpAny _ _ (subscriptTail _ _ _ _) _ _ _); (with_reducible (k_here; with_unfolding_all (refine' signAt ?zqh1 ?_ ?zqh2 ?zqh3; (case zqh1 => with_reducible assumption); (case zqh2 => intro _; rfl); (case zqh3 => intro _; rfl)))); (first | (with_reducible show wpAny _ _ (subscriptTail _ _ _ (Value.ref _)) _ _ _) | (with_reducible show wpAny _ _ (setItem _ (Value.ref _) _) _ _ _) | dsimp only | skip)) | (walk1; (first | (with_reducible show wpAny _ _ (subscriptTail _ _ _ (Value.ref _)) _ _ _) | (with_reducible show wpAny _ _ (setItem _ (Value.ref _) _) _ _ _) | dsimp only | skip)) | (dsimp only; walk1) | (leave1; (try dsimp only)) | fail "no step")
            rename News _ _ _ _ => N6
            rename Fr _ _ _ _ => F6
            rename EntsE w _ _ (turnE (placeOf k) e1) => E9
            refine pieceNext F6 N6 E9 (by assumption) (by assumption) hInv2 hJ hI1 hp1 hsub1 (by k_mem) (by k_mem) (by k_mem) ?mn (by kst_all) (by kst_same)
            refine List.forall_mem_cons.mpr ⟨by k_mem, List.forall_mem_cons.mpr ⟨by k_mem, List.forall_mem_cons.mpr ⟨by k_mem, List.forall_mem_cons.mpr ⟨by k_mem, List.forall_mem_cons.mpr ⟨by k_mem, List.forall_mem_cons.mpr ⟨by k_mem, List.forall_mem_cons.mpr ⟨by k_mem, ?_⟩⟩⟩⟩⟩⟩⟩
            exact fun q hq => by repeat (first | exact hq | refine List.Mem.tail _ ?_)
          case done =>
            clear F3 N3 F4 N4
            intro v' R' u h tk hE' hsub' hI' hp' F5 N5
            repeat' (first | (k_unfold; (try dsimp only)) | (k_end; wrow_close) | ((with_reducible show wpAny _ _ (exec (Stmt.For (PySem.Expr.Name _ _) (PySem.Expr.Subscript _ _ _) (_ :: _) [] _) _) _ _ _); (with_reducible (k_here; refine Halt.out ?_)); (first | (with_reducible show wpAny _ _ (subscriptTail _ _ _ (Value.ref _)) _ _ _) | (with_reducible show wpAny _ _ (setItem _ (Value.ref _) _) _ _ _) | dsimp only | skip)) | ((with_reducible show wpAny _ _ (exec (Stmt.For (PySem.Expr.Name _ _) (PySem.Expr.Name _ _) (_ :: _) [] _) _) _ _ _); (with_reducible (k_here; refine Halt.out ?_)); (first | (with_reducible show wpAny _ _ (subscriptTail _ _ _ (Value.ref _)) _ _ _) | (with_reducible show wpAny _ _ (setItem _ (Value.ref _) _) _ _ _) | dsimp only | skip)) | ((with_reducible show wpAny _ _ (subscriptTail (PySem.Expr.Name _ _) (PySem.Expr.Slice _ _ _ _) (Value.ref _) (Value.ref _)) _ _ _); ((k_here; (with_reducible show wpAny _ _ (subscriptTail _ (PySem.Expr.Slice none none (some _) _) (Value.ref _) (Value.ref _)) _ _ _); k_dflt (refine' krv_lit ?zqF ?zqN ?zql ?zqk ?zqe ?_ ?zqs ?zqt ?zqz; (case zqF => k_asm); (case zqN => k_asm); (case zql => kmk_list); (case zqk => exact IsPart.int _ _); (case zqe => exact rfl); (case zqs => with_unfolding_all rfl); (case zqt => kmk_pure); (case zqz => (rw [sizeLine_eq]; simp only [List.size_toArray, List.length_drop]; omega))); intro D' h' F' N' l1; (try k_lt l1))); (first | (with_reducible show wpAny _ _ (subscriptTail _ _ _ (Value.ref _)) _ _ _) | (with_reducible show wpAny _ _ (setItem _ (Value.ref _) _) _ _ _) | dsimp only | skip)) | ((with_reducible show wpAny _ _ (compareOp CmpOp.NotEq (Value.ref _) (Value.ref _)) _ _ _); (with_reducible (k_here; with_unfolding_all (refine' nePair ?zqh1 ?zqh2 ?zqh3 ?zqh4 ?zqo1 ?zqo2 ?zqo3 ?zqo4 ?zqh5 ?_; (case zqh1 => k_asm); (case zqh2 => k_mem); (case zqh3 => k_mem); (case zqh4 => ktr_units); (case zqo1 => exact okNil); (case zqo2 => first | exact okNil | exact okCode _ | with_reducible assumption); (case zqo3 => exact okNil); (case zqo4 => first | exact okNil | exact okCode _ | with_reducible assumption); (case zqh5 => first | with_reducible assumption | exact signEq | exact signNe (by with_reducible assumption) | exact signNil | exact nilSign | exact nilNil)))); (first | (with_reducible show wpAny _ _ (subscriptTail _ _ _ (Value.ref _)) _ _ _) | (with_reducible show wpAny _ _ (setItem _ (Value.ref _) _) _ _ _) | dsimp only | skip)) | ((with_reducible show wpAny _ _ (call (Value.builtin "str.index") _) _ _ _); (with_reducible (k_here; with_unfolding_all (refine idxPiece (by with_reducible assumption) ?_))); (first | (with_reducible show wpAny _ _ (subscriptTail _ _ _ (Value.ref _)) _ _ _) | (with_reducible show wpAny _ _ (setItem _ (Value.ref _) _) _ _ _) | dsimp only | skip)) | ((with_reducible show wpAny _ _ (getMethod (Value.ref _) _ _) _ _ _); (with_reducible (k_here; with_unfolding_all (refine' pileMeth (name := Str.ofString "part_count") (P := _) (f := .ref 105) (t := .type "function") ?zqh1 ?zqh2 ?zqh3 ?zqh4 ?zqh5 ?zqh6 ?zqh7 ?zqh8 ?zqh9 ?zqh10 ?_; (case zqh1 => k_asm); (case zqh2 => k_asm); (case zqh3 => k_asm); (case zqh4 => k_mem); (case zqh5 => k_mem); (case zqh6 => assumption); (case zqh7 => kernel_rfl); (case zqh8 => kernel_rfl); (case zqh9 => decide +kernel); (case zqh10 => decide +kernel)))); (first | (with_reducible show wpAny _ _ (subscriptTail _ _ _ (Value.ref _)) _ _ _) | (with_reducible show wpAny _ _ (setItem _ (Value.ref _) _) _ _ _) | dsimp only | skip)) | ((with_reducible show wpAny _ _ (getMethod (Value.ref _) _ _) _ _ _); (with_reducible (k_here; with_unfolding_all (refine' pileMeth (name := Str.ofString "pop_from") (P := _) (f := .ref 60) (t := .type "function") ?zqh1 ?zqh2 ?zqh3 ?zqh4 ?zqh5 ?zqh6 ?zqh7 ?zqh8 ?zqh9 ?zqh10 ?_; (case zqh1 => k_asm); (case zqh2 => k_asm); (case zqh3 => k_asm); (case zqh4 => k_mem); (case zqh5 => k_mem); (case zqh6 => assumption); (case zqh7 => kernel_rfl); (case zqh8 => kernel_rfl); (case zqh9 => decide +kernel); (case zqh10 => decide +kernel)))); (first | (with_reducible show wpAny _ _ (subscriptTail _ _ _ (Value.ref _)) _ _ _) | (with_reducible show wpAny _ _ (setItem _ (Value.ref _) _) _ _ _) | dsimp only | skip)) | ((with_reducible show wpAny _ _ (getMethod (Value.ref _) _ _) _ _ _); (with_reducible (k_here; with_unfolding_all (refine' pileMeth (name := Str.ofString "push") (P := _) (f := .ref 52) (t := .type "function") ?zqh1 ?zqh2 ?zqh3 ?zqh4 ?zqh5 ?zqh6 ?zqh7 ?zqh8 ?zqh9 ?zqh10 ?_; (case zqh1 => k_asm); (case zqh2 => k_asm); (case zqh3 => k_asm); (case zqh4 => k_mem); (case zqh5 => k_mem); (case zqh6 => assumption); (case zqh7 => kernel_rfl); (case zqh8 => kernel_rfl); (case zqh9 => decide +kernel); (case zqh10 => decide +kernel)))); (first | (with_reducible show wpAny _ _ (subscriptTail _ _ _ (Value.ref _)) _ _ _) | (with_reducible show wpAny _ _ (setItem _ (Value.ref _) _) _ _ _) | dsimp only | skip)) | ((with_reducible show wpAny _ _ (getMethod (Value.ref _) _ _) _ _ _); (with_reducible (k_here; with_unfolding_all (refine' pileMeth (name := Str.ofString "pop") (P := _) (f := .ref 68) (t := .type "function") ?zqh1 ?zqh2 ?zqh3 ?zqh4 ?zqh5 ?zqh6 ?zqh7 ?zqh8 ?zqh9 ?zqh10 ?_; (case zqh1 => k_asm); (case zqh2 => k_asm); (case zqh3 => k_asm); (case zqh4 => k_mem); (case zqh5 => k_mem); (case zqh6 => assumption); (case zqh7 => kernel_rfl); (case zqh8 => kernel_rfl); (case zqh9 => decide +kernel); (case zqh10 => decide +kernel)))); (first | (with_reducible show wpAny _ _ (subscriptTail _ _ _ (Value.ref _)) _ _ _) | (with_reducible show wpAny _ _ (setItem _ (Value.ref _) _) _ _ _) | dsimp only | skip)) | ((with_reducible show wpAny _ _ (call (Value.builtin "list.index") _) _ _ _); (with_reducible (k_here; with_unfolding_all (refine' idxL ?zqh1 ?zqh2 ?zqh3 ?zqh4 ?_; (case zqh1 => with_reducible assumption); (case zqh2 => with_reducible assumption); (case zqh3 => k_asm); (case zqh4 => k_mem)))); (first | (with_reducible show wpAny _ _ (subscriptTail _ _ _ (Value.ref _)) _ _ _) | (with_reducible show wpAny _ _ (setItem _ (Value.ref _) _) _ _ _) | dsimp only | skip)) | ((with_reducible show wpAny _ _ (call (Value.ref _) _) _ _ _); (with_reducible (k_here; (with_reducible show wpAny _ _ (call (Value.ref 143) _) _ _ _); with_unfolding_all ( refine' Does.use (isterm_does _ _ _ _ _ _) ?zqk1 ?zqk2 ?zqk3 ?zqk4 ?zqk5 ?zqk6 ?zqk7 ?zqk8 ?zqk9 ?_; (case zqk1 => k_asm); (case zqk2 => k_asm); (case zqk3 => k_asm); (case zqk4 => k_asm); (case zqk5 => k_asm); (case zqk6 => first | exact rfl | assumption); (case zqk7 => (repeat' (first | exact List.forall_mem_nil _ | refine List.forall_mem_cons.mpr ⟨by k_mem, ?_⟩)));  (case zqk8 => ktr_room); (case zqk9 => ktr_units); intro r9 tl9 h9 tk9 F9 N9 hl9 ho9; subst ho9; (replace N9 := newsPick (less := _) N9 (fun _ h => List.mem_append_right _ h)); clear hl9; (try dsimp only); (try k_fold)))); (first | (with_reducible show wpAny _ _ (subscriptTail _ _ _ (Value.ref _)) _ _ _) | (with_reducible show wpAny _ _ (setItem _ (Value.ref _) _) _ _ _) | dsimp only | skip)) | ((with_reducible show wpAny _ _ (subscriptTail _ _ _ _) _ _ _); (with_reducible (k_here; with_unfolding_all (refine' signAt ?zqh1 ?_ ?zqh2 ?zqh3; (case zqh1 => with_reducible assumption); (case zqh2 => intro _; rfl); (case zqh3 => intro _; rfl)))); (first | (with_reducible show wpAny _ _ (subscriptTail _ _ _ (Value.ref _)) _ _ _) | (with_reducible show wpAny _ _ (setItem _ (Value.ref _) _) _ _ _) | dsimp only | skip)) | (walk1; (first | (with_reducible show wpAny _ _ (subscriptTail _ _ _ (Value.ref _)) _ _ _) | (with_reducible show wpAny _ _ (setItem _ (Value.ref _) _) _ _ _) | dsimp only | skip)) | (dsimp only; walk1) | (leave1; (try dsimp only)) | fail "no step")
            rename News _ _ _ _ => N6
            rename Fr _ _ _ _ => F6
            exact runCut F6 N6 (stepR_cut s3).symm hE' hsub' hI' hp' hInv hI hsub (by k_mem) (by k_mem) (by k_mem) (by k_mem) (fun q hq => by repeat (first | exact hq | refine List.Mem.tail _ ?_)) ((hpile.take _).mono hsub') (by kst_all) (by kst_same)
      · have hlen12 := hgood.len
        have hpl := hpile.length
        have hcs : codeN c = 64 ∨ codeN c = 94 ∨ codeN c = 126 := by
          unfold codeN
          split
          · exact .inl rfl
          · split
            · exact .inr (.inl rfl)
            · exact .inr (.inr rfl)
        have hcc : wd = [] ∨ ∃ w' k', wd = w' ++ [k'] := by
          rcases List.eq_nil_or_concat wd with h | ⟨w', k', h⟩
          · exact .inl h
          · exact .inr ⟨w', k', by rw [h, List.concat_eq_append]⟩
        dsimp only at hIp
        repeat' (first | (k_unfold; (try dsimp only)) | (k_end; wrow_close) | (((with_reducible show wpAny _ _ (call (Value.ref 68) _) _ _ _); refine Halt.out ?_); (first | (with_reducible show wpAny _ _ (subscriptTail _ _ _ (Value.ref _)) _ _ _) | (with_reducible show wpAny _ _ (setItem _ (Value.ref _) _) _ _ _) | dsimp only | skip)) | ((with_reducible show wpAny _ _ (exec (Stmt.For (PySem.Expr.Name _ _) (PySem.Expr.Subscript _ _ _) (_ :: _) [] _) _) _ _ _); (with_reducible (k_here; refine Halt.out ?_)); (first | (with_reducible show wpAny _ _ (subscriptTail _ _ _ (Value.ref _)) _ _ _) | (with_reducible show wpAny _ _ (setItem _ (Value.ref _) _) _ _ _) | dsimp only | skip)) | ((with_reducible show wpAny _ _ (exec (Stmt.For (PySem.Expr.Name _ _) (PySem.Expr.Name _ _) (_ :: _) [] _) _) _ _ _); (with_reducible (k_here; refine Halt.out ?_)); (first | (with_reducible show wpAny _ _ (subscriptTail _ _ _ (Value.ref _)) _ _ _) | (with_reducible show wpAny _ _ (setItem _ (Value.ref _) _) _ _ _) | dsimp only | skip)) | ((with_reducible show wpAny _ _ (subscriptTail (PySem.Expr.Name _ _) (PySem.Expr.Slice _ _ _ _) (Value.ref _) (Value.ref _)) _ _ _); ((k_here; (with_reducible show wpAny _ _ (subscriptTail _ (PySem.Expr.Slice none none (some _) _) (Value.ref _) (Value.ref _)) _ _ _); k_dflt (refine' krv_lit ?zqF ?zqN ?zql ?zqk ?zqe ?_ ?zqs ?zqt ?zqz; (case zqF => k_asm); (case zqN => k_asm); (case zql => kmk_list); (case zqk => exact IsPart.int _ _); (case zqe => exact rfl); (case zqs => with_unfolding_all rfl); (case zqt => kmk_pure); (case zqz => (rw [sizeLine_eq]; simp only [List.size_toArray, List.length_drop]; omega))); intro D' h' F' N' l1; (try k_lt l1))); (first | (with_reducible show wpAny _ _ (subscriptTail _ _ _ (Value.ref _)) _ _ _) | (with_reducible show wpAny _ _ (setItem _ (Value.ref _) _) _ _ _) | dsimp only | skip)) | ((with_reducible show wpAny _ _ (compareOp CmpOp.NotEq (Value.ref _) (Value.ref _)) _ _ _); (with_reducible (k_here; with_unfolding_all (refine' nePair ?zqh1 ?zqh2 ?zqh3 ?zqh4 ?zqo1 ?zqo2 ?zqo3 ?zqo4 ?zqh5 ?_; (case zqh1 => k_asm); (case zqh2 => k_mem); (case zqh3 => k_mem); (case zqh4 => ktr_units); (case zqo1 => exact okNil); (case zqo2 => first | exact okNil | exact okCode _ | with_reducible assumption); (case zqo3 => exact okNil); (case zqo4 => first | exact okNil | exact okCode _ | with_reducible assumption); (case zqh5 => first | with_reducible assumption | exact signEq | exact signNe (by with_reducible assumption) | exact signNil | exact nilSign | exact nilNil)))); (first | (with_reducible show wpAny _ _ (subscriptTail _ _ _ (Value.ref _)) _ _ _) | (with_reducible show wpAny _ _ (setItem _ (Value.ref _) _) _ _ _) | dsimp only | skip)) | ((with_reducible show wpAny _ _ (call (Value.builtin "str.index") _) _ _ _); (with_reducible (k_here; with_unfolding_all (refine idxPiece (by with_reducible assumption) ?_))); (first | (with_reducible show wpAny _ _ (subscriptTail _ _ _ (Value.ref _)) _ _ _) | (with_reducible show wpAny _ _ (setItem _ (Value.ref _) _) _ _ _) | dsimp only | skip)) | ((with_reducible show wpAny _ _ (call (Value.ref _) _) _ _ _); (with_reducible (k_here; (with_reducible show wpAny _ _ (call (Value.ref 197) _) _ _ _); with_unfolding_all ( refine' turned_open (lit := [_, _, _, _, _, _, _, _]) ?zqh1 ?zqh2 ?zqh3 ?zqh4 ?zqh5 ?zqh6 ?zqh7 ?zqh8 ?zqh9 ?zqh10 ?_; (case zqh1 => with_reducible assumption); (case zqh2 => with_reducible assumption); (case zqh3 => k_asm); (case zqh4 => k_asm); (case zqh5 => k_asm); (case zqh6 => k_asm); (case zqh7 => k_asm); (case zqh8 => first | exact rfl | assumption); (case zqh9 => ktr_room); (case zqh10 => ktr_units); intro r9 R9 h9 tk9 F9 N9 sub9 off9 E9; (try dsimp only [List.cons_append, List.nil_append] at N9)))); (first | (with_reducible show wpAny _ _ (subscriptTail _ _ _ (Value.ref _)) _ _ _) | (with_reducible show wpAny _ _ (setItem _ (Value.ref _) _) _ _ _) | dsimp only | skip)) | ((with_reducible show wpAny _ _ (getMethod (Value.ref _) _ _) _ _ _); (with_reducible (k_here; with_unfolding_all (refine' pileMeth (name := Str.ofString "part_count") (P := _) (f := .ref 105) (t := .type "function") ?zqh1 ?zqh2 ?zqh3 ?zqh4 ?zqh5 ?zqh6 ?zqh7 ?zqh8 ?zqh9 ?zqh10 ?_; (case zqh1 => k_asm); (case zqh2 => k_asm); (case zqh3 => k_asm); (case zqh4 => k_mem); (case zqh5 => k_mem); (case zqh6 => assumption); (case zqh7 => kernel_rfl); (case zqh8 => kernel_rfl); (case zqh9 => decide +kernel); (case zqh10 => decide +kernel)))); (first | (with_reducible show wpAny _ _ (subscriptTail _ _ _ (Value.ref _)) _ _ _) | (with_reducible show wpAny _ _ (setItem _ (Value.ref _) _) _ _ _) | dsimp only | skip)) | ((with_reducible show wpAny _ _ (getMethod (Value.ref _) _ _) _ _ _); (with_reducible (k_here; with_unfolding_all (refine' pileMeth (name := Str.ofString "pop_from") (P := _) (f := .ref 60) (t := .type "function") ?zqh1 ?zqh2 ?zqh3 ?zqh4 ?zqh5 ?zqh6 ?zqh7 ?zqh8 ?zqh9 ?zqh10 ?_; (case zqh1 => k_asm); (case zqh2 => k_asm); (case zqh3 => k_asm); (case zqh4 => k_mem); (case zqh5 => k_mem); (case zqh6 => assumption); (case zqh7 => kernel_rfl); (case zqh8 => kernel_rfl); (case zqh9 => decide +kernel); (case zqh10 => decide +kernel)))); (first | (with_reducible show wpAny _ _ (subscriptTail _ _ _ (Value.ref _)) _ _ _) | (with_reducible show wpAny _ _ (setItem _ (Value.ref _) _) _ _ _) | dsimp only | skip)) | ((with_reducible show wpAny _ _ (getMethod (Value.ref _) _ _) _ _ _); (with_reducible (k_here; with_unfolding_all (refine' pileMeth (name := Str.ofString "push") (P := _) (f := .ref 52) (t := .type "function") ?zqh1 ?zqh2 ?zqh3 ?zqh4 ?zqh5 ?zqh6 ?zqh7 ?zqh8 ?zqh9 ?zqh10 ?_; (case zqh1 => k_asm); (case zqh2 => k_asm); (case zqh3 => k_asm); (case zqh4 => k_mem); (case zqh5 => k_mem); (case zqh6 => assumption); (case zqh7 => kernel_rfl); (case zqh8 => kernel_rfl); (case zqh9 => decide +kernel); (case zqh10 => decide +kernel)))); (first | (with_reducible show wpAny _ _ (subscriptTail _ _ _ (Value.ref _)) _ _ _) | (with_reducible show wpAny _ _ (setItem _ (Value.ref _) _) _ _ _) | dsimp only | skip)) | ((with_reducible show wpAny _ _ (getMethod (Value.ref _) _ _) _ _ _); (with_reducible (k_here; with_unfolding_all (refine' pileMeth (name := Str.ofString "pop") (P := _) (f := .ref 68) (t := .type "function") ?zqh1 ?zqh2 ?zqh3 ?zqh4 ?zqh5 ?zqh6 ?zqh7 ?zqh8 ?zqh9 ?zqh10 ?_; (case zqh1 => k_asm); (case zqh2 => k_asm); (case zqh3 => k_asm); (case zqh4 => k_mem); (case zqh5 => k_mem); (case zqh6 => assumption); (case zqh7 => kernel_rfl); (case zqh8 => kernel_rfl); (case zqh9 => decide +kernel); (case zqh10 => decide +kernel)))); (first | (with_reducible show wpAny _ _ (subscriptTail _ _ _ (Value.ref _)) _ _ _) | (with_reducible show wpAny _ _ (setItem _ (Value.ref _) _) _ _ _) | dsimp only | skip)) | ((with_reducible show wpAny _ _ (call (Value.builtin "list.index") _) _ _ _); (with_reducible (k_here; with_unfolding_all (refine' idxL ?zqh1 ?zqh2 ?zqh3 ?zqh4 ?_; (case zqh1 => with_reducible assumption); (case zqh2 => with_reducible assumption); (case zqh3 => k_asm); (case zqh4 => k_mem)))); (first | (with_reducible show wpAny _ _ (subscriptTail _ _ _ (Value.ref _)) _ _ _) | (with_reducible show wpAny _ _ (setItem _ (Value.ref _) _) _ _ _) | dsimp only | skip)) | ((with_reducible show wpAny _ _ (call (Value.ref _) _) _ _ _); (with_reducible (k_here; (with_reducible show wpAny _ _ (call (Value.ref 197) _) _ _ _); with_unfolding_all ( refine' turned_open (lit := [_, _, _, _, _]) ?zqh1 ?zqh2 ?zqh3 ?zqh4 ?zqh5 ?zqh6 ?zqh7 ?zqh8 ?zqh9 ?zqh10 ?_; (case zqh1 => with_reducible assumption); (case zqh2 => with_reducible assumption); (case zqh3 => k_asm); (case zqh4 => k_asm); (case zqh5 => k_asm); (case zqh6 => k_asm); (case zqh7 => k_asm); (case zqh8 => first | exact rfl | assumption); (case zqh9 => ktr_room); (case zqh10 => ktr_units); intro r9 R9 h9 tk9 F9 N9 sub9 off9 E9; (try dsimp only [List.cons_append, List.nil_append] at N9); (have up9 := upGrow (by assumption) (by k_mem) off9)))); (first | (with_reducible show wpAny _ _ (subscriptTail _ _ _ (Value.ref _)) _ _ _) | (with_reducible show wpAny _ _ (setItem _ (Value.ref _) _) _ _ _) | dsimp only | skip)) | ((with_reducible show wpAny _ _ (call (Value.ref _) _) _ _ _); (with_reducible (k_here; (with_reducible show wpAny _ _ (call (Value.ref 150) _) _ _ _); with_unfolding_all ( refine' Does.use (isnon_does _ _ _ _ _ _) ?zqk1 ?zqk2 ?zqk3 ?zqk4 ?zqk5 ?zqk6 ?zqk7 ?zqk8 ?zqk9 ?_; (case zqk1 => k_asm); (case zqk2 => k_asm); (case zqk3 => k_asm); (case zqk4 => k_asm); (case zqk5 => k_asm); (case zqk6 => first | exact rfl | assumption); (case zqk7 => (repeat' (first | exact List.forall_mem_nil _ | refine List.forall_mem_cons.mpr ⟨by k_mem, ?_⟩)));  (case zqk8 => ktr_room); (case zqk9 => ktr_units); intro r9 tl9 h9 tk9 F9 N9 hl9 ho9; subst ho9; (replace N9 := newsPick (less := _) N9 (fun _ h => List.mem_append_right _ h)); clear hl9; (try dsimp only); (try k_fold)))); (first | (with_reducible show wpAny _ _ (subscriptTail _ _ _ (Value.ref _)) _ _ _) | (with_reducible show wpAny _ _ (setItem _ (Value.ref _) _) _ _ _) | dsimp only | skip)) | ((with_reducible show wpAny _ _ (call (Value.ref _) _) _ _ _); (with_reducible (k_here; (with_reducible show wpAny _ _ (call (Value.ref 143) _) _ _ _); with_unfolding_all ( refine' Does.use (isterm_does _ _ _ _ _ _) ?zqk1 ?zqk2 ?zqk3 ?zqk4 ?zqk5 ?zqk6 ?zqk7 ?zqk8 ?zqk9 ?_; (case zqk1 => k_asm); (case zqk2 => k_asm); (case zqk3 => k_asm); (case zqk4 => k_asm); (case zqk5 => k_asm); (case zqk6 => first | exact rfl | assumption); (case zqk7 => (repeat' (first | exact List.forall_mem_nil _ | refine List.forall_mem_cons.mpr ⟨by k_mem, ?_⟩)));  (case zqk8 => ktr_room); (case zqk9 => ktr_units); intro r9 tl9 h9 tk9 F9 N9 hl9 ho9; subst ho9; (replace N9 := newsPick (less := _) N9 (fun _ h => List.mem_append_right _ h)); clear hl9; (try dsimp only); (try k_fold)))); (first | (with_reducible show wpAny _ _ (subscriptTail _ _ _ (Value.ref _)) _ _ _) | (with_reducible show wpAny _ _ (setItem _ (Value.ref _) _) _ _ _) | dsimp only | skip)) | ((with_reducible show wpAny _ _ (call (Value.ref _) _) _ _ _); (with_reducible (k_here; (with_reducible show wpAny _ _ (call (Value.ref 157) _) _ _ _); with_unfolding_all ( refine' Does.use (iseof_does _ _ _ _ _ _) ?zqk1 ?zqk2 ?zqk3 ?zqk4 ?zqk5 ?zqk6 ?zqk7 ?zqk8 ?zqk9 ?_; (case zqk1 => k_asm); (case zqk2 => k_asm); (case zqk3 => k_asm); (case zqk4 => k_asm); (case zqk5 => k_asm); (case zqk6 => first | exact rfl | assumption); (case zqk7 => (repeat' (first | exact List.forall_mem_nil _ | refine List.forall_mem_cons.mpr ⟨by k_mem, ?_⟩)));  (case zqk8 => ktr_room); (case zqk9 => ktr_units); intro r9 tl9 h9 tk9 F9 N9 hl9 ho9; subst ho9; (replace N9 := newsPick (less := _) N9 (fun _ h => List.mem_append_right _ h)); clear hl9; (try dsimp only); (try k_fold)))); (first | (with_reducible show wpAny _ _ (subscriptTail _ _ _ (Value.ref _)) _ _ _) | (with_reducible show wpAny _ _ (setItem _ (Value.ref _) _) _ _ _) | dsimp only | skip)) | ((with_reducible show wpAny _ _ (subscriptTail _ _ _ _) _ _ _); (with_reducible (k_here; with_unfolding_all (refine' signAt ?zqh1 ?_ ?zqh2 ?zqh3; (case zqh1 => with_reducible assumption); (case zqh2 => intro _; rfl); (case zqh3 => intro _; rfl)))); (first | (with_reducible show wpAny _ _ (subscriptTail _ _ _ (Value.ref _)) _ _ _) | (with_reducible show wpAny _ _ (setItem _ (Value.ref _) _) _ _ _) | dsimp only | skip)) | (walk1; (first | (with_reducible show wpAny _ _ (subscriptTail _ _ _ (Value.ref _)) _ _ _) | (with_reducible show wpAny _ _ (setItem _ (Value.ref _) _) _ _ _) | dsimp only | skip)) | (dsimp only; walk1) | (leave1; (try dsimp only)) | fail "no step")
        · exfalso; omega
        · refine Halt.go ?_
          rename News _ _ _ _ => N3
          rename ∀ q ∈ R, q ∈ _ => sub9
          rcases hcc with rfl | ⟨w', k', rfl⟩
          · have := hpile.nil_inv
            subst this
            have hl0 : ([] : List Value).length ≤ 12 := Nat.zero_le _
            repeat' (first | (k_unfold; (try dsimp only)) | (k_end; wrow_close) | ((with_reducible show wpAny _ _ (exec (Stmt.For (PySem.Expr.Name _ _) (PySem.Expr.Subscript _ _ _) (_ :: _) [] _) _) _ _ _); (with_reducible (k_here; refine Halt.out ?_)); (first | (with_reducible show wpAny _ _ (subscriptTail _ _ _ (Value.ref _)) _ _ _) | (with_reducible show wpAny _ _ (setItem _ (Value.ref _) _) _ _ _) | dsimp only | skip)) | ((with_reducible show wpAny _ _ (exec (Stmt.For (PySem.Expr.Name _ _) (PySem.Expr.Name _ _) (_ :: _) [] _) _) _ _ _); (with_reducible (k_here; refine Halt.out ?_)); (first | (with_reducible show wpAny _ _ (subscriptTail _ _ _ (Value.ref _)) _ _ _) | (with_reducible show wpAny _ _ (setItem _ (Value.ref _) _) _ _ _) | dsimp only | skip)) | ((with_reducible show wpAny _ _ (subscriptTail (PySem.Expr.Name _ _) (PySem.Expr.Slice _ _ _ _) (Value.ref _) (Value.ref _)) _ _ _); ((k_here; (with_reducible show wpAny _ _ (subscriptTail _ (PySem.Expr.Slice none none (some _) _) (Value.ref _) (Value.ref _)) _ _ _); k_dflt (refine' krv_lit ?zqF ?zqN ?zql ?zqk ?zqe ?_ ?zqs ?zqt ?zqz; (case zqF => k_asm); (case zqN => k_asm); (case zql => kmk_list); (case zqk => exact IsPart.int _ _); (case zqe => exact rfl); (case zqs => with_unfolding_all rfl); (case zqt => kmk_pure); (case zqz => (rw [sizeLine_eq]; simp only [List.size_toArray, List.length_drop]; omega))); intro D' h' F' N' l1; (try k_lt l1))); (first | (with_reducible show wpAny _ _ (subscriptTail _ _ _ (Value.ref _)) _ _ _) | (with_reducible show wpAny _ _ (setItem _ (Value.ref _) _) _ _ _) | dsimp only | skip)) | ((with_reducible show wpAny _ _ (compareOp CmpOp.NotEq (Value.ref _) (Value.ref _)) _ _ _); (with_reducible (k_here; with_unfolding_all (refine' nePair ?zqh1 ?zqh2 ?zqh3 ?zqh4 ?zqo1 ?zqo2 ?zqo3 ?zqo4 ?zqh5 ?_; (case zqh1 => k_asm); (case zqh2 => k_mem); (case zqh3 => k_mem); (case zqh4 => ktr_units); (case zqo1 => exact okNil); (case zqo2 => first | exact okNil | exact okCode _ | with_reducible assumption); (case zqo3 => exact okNil); (case zqo4 => first | exact okNil | exact okCode _ | with_reducible assumption); (case zqh5 => first | with_reducible assumption | exact signEq | exact signNe (by with_reducible assumption) | exact signNil | exact nilSign | exact nilNil)))); (first | (with_reducible show wpAny _ _ (subscriptTail _ _ _ (Value.ref _)) _ _ _) | (with_reducible show wpAny _ _ (setItem _ (Value.ref _) _) _ _ _) | dsimp only | skip)) | ((with_reducible show wpAny _ _ (call (Value.builtin "str.index") _) _ _ _); (with_reducible (k_here; with_unfolding_all (refine idxPiece (by with_reducible assumption) ?_))); (first | (with_reducible show wpAny _ _ (subscriptTail _ _ _ (Value.ref _)) _ _ _) | (with_reducible show wpAny _ _ (setItem _ (Value.ref _) _) _ _ _) | dsimp only | skip)) | ((with_reducible show wpAny _ _ (getMethod (Value.ref _) _ _) _ _ _); (with_reducible (k_here; with_unfolding_all (refine' pileMeth (name := Str.ofString "part_count") (P := _) (f := .ref 105) (t := .type "function") ?zqh1 ?zqh2 ?zqh3 ?zqh4 ?zqh5 ?zqh6 ?zqh7 ?zqh8 ?zqh9 ?zqh10 ?_; (case zqh1 => k_asm); (case zqh2 => k_asm); (case zqh3 => k_asm); (case zqh4 => k_mem); (case zqh5 => k_mem); (case zqh6 => assumption); (case zqh7 => kernel_rfl); (case zqh8 => kernel_rfl); (case zqh9 => decide +kernel); (case zqh10 => decide +kernel)))); (first | (with_reducible show wpAny _ _ (subscriptTail _ _ _ (Value.ref _)) _ _ _) | (with_reducible show wpAny _ _ (setItem _ (Value.ref _) _) _ _ _) | dsimp only | skip)) | ((with_reducible show wpAny _ _ (getMethod (Value.ref _) _ _) _ _ _); (with_reducible (k_here; with_unfolding_all (refine' pileMeth (name := Str.ofString "pop_from") (P := _) (f := .ref 60) (t := .type "function") ?zqh1 ?zqh2 ?zqh3 ?zqh4 ?zqh5 ?zqh6 ?zqh7 ?zqh8 ?zqh9 ?zqh10 ?_; (case zqh1 => k_asm); (case zqh2 => k_asm); (case zqh3 => k_asm); (case zqh4 => k_mem); (case zqh5 => k_mem); (case zqh6 => assumption); (case zqh7 => kernel_rfl); (case zqh8 => kernel_rfl); (case zqh9 => decide +kernel); (case zqh10 => decide +kernel)))); (first | (with_reducible show wpAny _ _ (subscriptTail _ _ _ (Value.ref _)) _ _ _) | (with_reducible show wpAny _ _ (setItem _ (Value.ref _) _) _ _ _) | dsimp only | skip)) | ((with_reducible show wpAny _ _ (getMethod (Value.ref _) _ _) _ _ _); (with_reducible (k_here; with_unfolding_all (refine' pileMeth (name := Str.ofString "push") (P := _) (f := .ref 52) (t := .type "function") ?zqh1 ?zqh2 ?zqh3 ?zqh4 ?zqh5 ?zqh6 ?zqh7 ?zqh8 ?zqh9 ?zqh10 ?_; (case zqh1 => k_asm); (case zqh2 => k_asm); (case zqh3 => k_asm); (case zqh4 => k_mem); (case zqh5 => k_mem); (case zqh6 => assumption); (case zqh7 => kernel_rfl); (case zqh8 => kernel_rfl); (case zqh9 => decide +kernel); (case zqh10 => decide +kernel)))); (first | (with_reducible show wpAny _ _ (subscriptTail _ _ _ (Value.ref _)) _ _ _) | (with_reducible show wpAny _ _ (setItem _ (Value.ref _) _) _ _ _) | dsimp only | skip)) | ((with_reducible show wpAny _ _ (getMethod (Value.ref _) _ _) _ _ _); (with_reducible (k_here; with_unfolding_all (refine' pileMeth (name := Str.ofString "pop") (P := _) (f := .ref 68) (t := .type "function") ?zqh1 ?zqh2 ?zqh3 ?zqh4 ?zqh5 ?zqh6 ?zqh7 ?zqh8 ?zqh9 ?zqh10 ?_; (case zqh1 => k_asm); (case zqh2 => k_asm); (case zqh3 => k_asm); (case zqh4 => k_mem); (case zqh5 => k_mem); (case zqh6 => assumption); (case zqh7 => kernel_rfl); (case zqh8 => kernel_rfl); (case zqh9 => decide +kernel); (case zqh10 => decide +kernel)))); (first | (with_reducible show wpAny _ _ (subscriptTail _ _ _ (Value.ref _)) _ _ _) | (with_reducible show wpAny _ _ (setItem _ (Value.ref _) _) _ _ _) | dsimp only | skip)) | ((with_reducible show wpAny _ _ (call (Value.builtin "list.index") _) _ _ _); (with_reducible (k_here; with_unfolding_all (refine' idxL ?zqh1 ?zqh2 ?zqh3 ?zqh4 ?_; (case zqh1 => with_reducible assumption); (case zqh2 => with_reducible assumption); (case zqh3 => k_asm); (case zqh4 => k_mem)))); (first | (with_reducible show wpAny _ _ (subscriptTail _ _ _ (Value.ref _)) _ _ _) | (with_reducible show wpAny _ _ (setItem _ (Value.ref _) _) _ _ _) | dsimp only | skip)) | ((with_reducible show wpAny _ _ (call (Value.ref _) _) _ _ _); ((k_here; (with_reducible show wpAny _ _ (call (Value.ref 52) _) _ _ _); with_unfolding_all ( refine' DoesTo.use (push_does _ _ _ _ _ _ _ _ _ _ _ _ _ ?zqa1 ?zqa2 ?zqa3) ?zqk1 ?zqk2 ?zqk3 ?zqk4 ?zqk5 ?zqk6 ?zqkU ?zqk7 ?zqk8 ?zqk9 ?_; (case zqk1 => k_asm); (case zqk2 => k_asm); (case zqk3 => k_asm); (case zqk4 => k_asm); (case zqk5 => k_asm); (case zqk6 => first | exact rfl | assumption); (case zqkU => (first | (refine' UpdF.head ?_; with_reducible assumption) | (refine' UpdF.tail ?zu8 ?zv8; (case zu8 => k_ne); (case zv8 => (first | (refine' UpdF.head ?_; with_reducible assumption) | (refine' UpdF.tail ?zu7 ?zv7; (case zu7 => k_ne); (case zv7 => (first | (refine' UpdF.head ?_; with_reducible assumption) | (refine' UpdF.tail ?zu6 ?zv6; (case zu6 => k_ne); (case zv6 => (first | (refine' UpdF.head ?_; with_reducible assumption) | (refine' UpdF.tail ?zu5 ?zv5; (case zu5 => k_ne); (case zv5 => (first | (refine' UpdF.head ?_; with_reducible assumption) | (refine' UpdF.tail ?zu4 ?zv4; (case zu4 => k_ne); (case zv4 => (first | (refine' UpdF.head ?_; with_reducible assumption) | (refine' UpdF.tail ?zu3 ?zv3; (case zu3 => k_ne); (case zv3 => (first | (refine' UpdF.head ?_; with_reducible assumption) | (refine' UpdF.tail ?zu2 ?zv2; (case zu2 => k_ne); (case zv2 => (first | (refine' UpdF.head ?_; with_reducible assumption) | (refine' UpdF.tail ?zu1 ?zv1; (case zu1 => k_ne); (case zv1 => (refine' UpdF.head ?_; with_reducible assumption)))))))))))))))))))))))))); (case zqk7 => (repeat' (first | exact List.forall_mem_nil _ | refine List.forall_mem_cons.mpr ⟨by k_mem, ?_⟩))); (case zqa1 => assumption); (case zqa2 => first | with_reducible assumption | with_reducible exact ‹∀ v : Value, List.length (_ ++ [v]) ≤ 12› _); (case zqa3 => with_reducible assumption); (case zqk8 => ktr_room); (case zqk9 => ktr_units); intro r9 tl9 o9 h9 tk9 F9 N9 ap9 out9; obtain ⟨t9, n9, n8, eo9, hm9⟩ := out9; subst eo9; (have l9 := apartOf ap9 hm9); (dsimp only [NeAll] at l9); (replace N9 := newsPick (less := (t9, _) :: _) N9 (List.forall_mem_cons.mpr ⟨List.mem_append_left _ hm9, fun _ h => List.mem_append_right _ h⟩)); clear ap9 hm9; (try dsimp only at N9); skip))); (first | (with_reducible show wpAny _ _ (subscriptTail _ _ _ (Value.ref _)) _ _ _) | (with_reducible show wpAny _ _ (setItem _ (Value.ref _) _) _ _ _) | dsimp only | skip)) | ((with_reducible show wpAny _ _ (call (Value.ref _) _) _ _ _); ((k_here; (with_reducible show wpAny _ _ (call (Value.ref 68) _) _ _ _); with_unfolding_all ( refine' DoesTo.use (pop_empty _ _ _ _ _ _ _ _ ?zqa1 ?zqa3) ?zqk1 ?zqk2 ?zqk3 ?zqk4 ?zqk5 ?zqk6 ?zqkU ?zqk7 ?zqk8 ?zqk9 ?_; (case zqk1 => k_asm); (case zqk2 => k_asm); (case zqk3 => k_asm); (case zqk4 => k_asm); (case zqk5 => k_asm); (case zqk6 => first | exact rfl | assumption); (case zqkU => (first | (refine' UpdF.head ?_; with_reducible assumption) | (refine' UpdF.tail ?zu8 ?zv8; (case zu8 => k_ne); (case zv8 => (first | (refine' UpdF.head ?_; with_reducible assumption) | (refine' UpdF.tail ?zu7 ?zv7; (case zu7 => k_ne); (case zv7 => (first | (refine' UpdF.head ?_; with_reducible assumption) | (refine' UpdF.tail ?zu6 ?zv6; (case zu6 => k_ne); (case zv6 => (first | (refine' UpdF.head ?_; with_reducible assumption) | (refine' UpdF.tail ?zu5 ?zv5; (case zu5 => k_ne); (case zv5 => (first | (refine' UpdF.head ?_; with_reducible assumption) | (refine' UpdF.tail ?zu4 ?zv4; (case zu4 => k_ne); (case zv4 => (first | (refine' UpdF.head ?_; with_reducible assumption) | (refine' UpdF.tail ?zu3 ?zv3; (case zu3 => k_ne); (case zv3 => (first | (refine' UpdF.head ?_; with_reducible assumption) | (refine' UpdF.tail ?zu2 ?zv2; (case zu2 => k_ne); (case zv2 => (first | (refine' UpdF.head ?_; with_reducible assumption) | (refine' UpdF.tail ?zu1 ?zv1; (case zu1 => k_ne); (case zv1 => (refine' UpdF.head ?_; with_reducible assumption)))))))))))))))))))))))))); (case zqk7 => (repeat' (first | exact List.forall_mem_nil _ | refine List.forall_mem_cons.mpr ⟨by k_mem, ?_⟩))); (case zqa1 => assumption); (case zqa3 => with_reducible assumption); (case zqk8 => ktr_room); (case zqk9 => ktr_units); intro r9 tl9 o9 h9 tk9 F9 N9 ap9 out9; obtain ⟨eo9, t9, u1, u2, e9, hm9⟩ := out9; subst e9 eo9; (have l9 := apartOf ap9 hm9); (dsimp only [NeAll] at l9); (replace N9 := newsPick (less := (t9, _) :: _) N9 (List.forall_mem_cons.mpr ⟨List.mem_append_left _ hm9, fun _ h => List.mem_append_right _ h⟩)); clear ap9 hm9; (try dsimp only at N9); skip))); (first | (with_reducible show wpAny _ _ (subscriptTail _ _ _ (Value.ref _)) _ _ _) | (with_reducible show wpAny _ _ (setItem _ (Value.ref _) _) _ _ _) | dsimp only | skip)) | ((with_reducible show wpAny _ _ (call (Value.ref _) _) _ _ _); ((k_here; (with_reducible show wpAny _ _ (call (Value.ref 68) _) _ _ _); with_unfolding_all ( refine' DoesTo.use (pop_full _ _ _ _ _ _ _ _ _ _ ?zqa1 ?zqa2 ?zqa3) ?zqk1 ?zqk2 ?zqk3 ?zqk4 ?zqk5 ?zqk6 ?zqkU ?zqk7 ?zqk8 ?zqk9 ?_; (case zqk1 => k_asm); (case zqk2 => k_asm); (case zqk3 => k_asm); (case zqk4 => k_asm); (case zqk5 => k_asm); (case zqk6 => first | exact rfl | assumption); (case zqkU => (first | (refine' UpdF.head ?_; with_reducible assumption) | (refine' UpdF.tail ?zu8 ?zv8; (case zu8 => k_ne); (case zv8 => (first | (refine' UpdF.head ?_; with_reducible assumption) | (refine' UpdF.tail ?zu7 ?zv7; (case zu7 => k_ne); (case zv7 => (first | (refine' UpdF.head ?_; with_reducible assumption) | (refine' UpdF.tail ?zu6 ?zv6; (case zu6 => k_ne); (case zv6 => (first | (refine' UpdF.head ?_; with_reducible assumption) | (refine' UpdF.tail ?zu5 ?zv5; (case zu5 => k_ne); (case zv5 => (first | (refine' UpdF.head ?_; with_reducible assumption) | (refine' UpdF.tail ?zu4 ?zv4; (case zu4 => k_ne); (case zv4 => (first | (refine' UpdF.head ?_; with_reducible assumption) | (refine' UpdF.tail ?zu3 ?zv3; (case zu3 => k_ne); (case zv3 => (first | (refine' UpdF.head ?_; with_reducible assumption) | (refine' UpdF.tail ?zu2 ?zv2; (case zu2 => k_ne); (case zv2 => (first | (refine' UpdF.head ?_; with_reducible assumption) | (refine' UpdF.tail ?zu1 ?zv1; (case zu1 => k_ne); (case zv1 => (refine' UpdF.head ?_; with_reducible assumption)))))))))))))))))))))))))); (case zqk7 => (repeat' (first | exact List.forall_mem_nil _ | refine List.forall_mem_cons.mpr ⟨by k_mem, ?_⟩))); (case zqa1 => assumption); (case zqa2 => first | with_reducible assumption | with_reducible exact ‹∀ v : Value, List.length (_ ++ [v]) ≤ 12› _); (case zqa3 => with_reducible assumption); (case zqk8 => ktr_room); (case zqk9 => ktr_units); intro r9 tl9 o9 h9 tk9 F9 N9 ap9 out9; obtain ⟨e9, n9, eo9⟩ := out9; subst e9 eo9; (replace N9 := newsPick (less := _) N9 (fun _ h => List.mem_append_right _ h)); clear ap9; (try dsimp only at N9); skip))); (first | (with_reducible show wpAny _ _ (subscriptTail _ _ _ (Value.ref _)) _ _ _) | (with_reducible show wpAny _ _ (setItem _ (Value.ref _) _) _ _ _) | dsimp only | skip)) | ((with_reducible show wpAny _ _ (subscriptTail _ _ _ _) _ _ _); (with_reducible (k_here; with_unfolding_all (refine' signAt ?zqh1 ?_ ?zqh2 ?zqh3; (case zqh1 => with_reducible assumption); (case zqh2 => intro _; rfl); (case zqh3 => intro _; rfl)))); (first | (with_reducible show wpAny _ _ (subscriptTail _ _ _ (Value.ref _)) _ _ _) | (with_reducible show wpAny _ _ (setItem _ (Value.ref _) _) _ _ _) | dsimp only | skip)) | (walk1; (first | (with_reducible show wpAny _ _ (subscriptTail _ _ _ (Value.ref _)) _ _ _) | (with_reducible show wpAny _ _ (setItem _ (Value.ref _) _) _ _ _) | dsimp only | skip)) | (dsimp only; walk1) | (leave1; (try dsimp only)) | fail "no step")
            rename News _ _ _ _ => N3
            rename Fr _ _ _ _ => F3
            rename EntsE w _ _ (turnE c e) => E9
            refine runNext [(_, _)] F3 N3 (by rw [stepR_push hc hx4, pushS_nil] <;> rfl) E9 (by assumption) (by assumption) hInv hI hnp hsub (by k_mem) (by k_mem) (by k_mem) (by k_mem) (by k_mem) (by k_mem) (fun q hq => by repeat (first | exact hq | refine List.Mem.tail _ ?_)) (List.forall_mem_cons.mpr ⟨List.Mem.head _, List.forall_mem_nil _⟩) (List.forall_mem_cons.mpr ⟨by k_ne, List.forall_mem_nil _⟩) (List.forall_mem_cons.mpr ⟨by k_ne, List.forall_mem_nil _⟩) (PileW.append (vs := []) (w := []) .nil (.cons ⟨_, _, _, _, rfl, List.Mem.head _⟩ .nil)) (by kst_all) (by kst_same)
          · obtain ⟨us, v', rfl, hpw, tt, nt, t1, t2, rfl, hmt⟩ := hpile.snoc_inv
            replace N3 := newsPick (less := (tt, tupOf [.str sNil t1, .str ⟨#[k']⟩ t2] nt) :: _) N3 (List.forall_mem_cons.mpr ⟨List.Mem.tail _ (.tail _ (.tail _ (.tail _ (.tail _ (sub9 _ hmt))))), fun q hq => hq⟩)
            have htp : @Ne Nat tt _ := hup _ (.tail _ (.tail _ hmt))
            have htI : @Ne Nat I tt := neAll_at hI _ (.tail _ (.tail _ (.tail _ hmt)))
            have hl1 : us.length ≤ 12 := by simp at hpl hlen12; omega
            have hl2 : ∀ v : Value, (us ++ [v]).length ≤ 12 := by intro v; simp at hpl hlen12 ⊢; omega
            have hok' : PyData.strOk ⟨#[k']⟩ = true := okSgn (hgood.sg k' (by simp))
            repeat' (first | (k_unfold; (try dsimp only)) | (k_end; wrow_close) | (((with_reducible show wpAny _ _ (compareOp CmpOp.NotEq (Value.ref _) (Value.ref _)) _ _ _); refine Halt.out ?_); (first | (with_reducible show wpAny _ _ (subscriptTail _ _ _ (Value.ref _)) _ _ _) | (with_reducible show wpAny _ _ (setItem _ (Value.ref _) _) _ _ _) | dsimp only | skip)) | ((with_reducible show wpAny _ _ (exec (Stmt.For (PySem.Expr.Name _ _) (PySem.Expr.Subscript _ _ _) (_ :: _) [] _) _) _ _ _); (with_reducible (k_here; refine Halt.out ?_)); (first | (with_reducible show wpAny _ _ (subscriptTail _ _ _ (Value.ref _)) _ _ _) | (with_reducible show wpAny _ _ (setItem _ (Value.ref _) _) _ _ _) | dsimp only | skip)) | ((with_reducible show wpAny _ _ (exec (Stmt.For (PySem.Expr.Name _ _) (PySem.Expr.Name _ _) (_ :: _) [] _) _) _ _ _); (with_reducible (k_here; refine Halt.out ?_)); (first | (with_reducible show wpAny _ _ (subscriptTail _ _ _ (Value.ref _)) _ _ _) | (with_reducible show wpAny _ _ (setItem _ (Value.ref _) _) _ _ _) | dsimp only | skip)) | ((with_reducible show wpAny _ _ (subscriptTail (PySem.Expr.Name _ _) (PySem.Expr.Slice _ _ _ _) (Value.ref _) (Value.ref _)) _ _ _); ((k_here; (with_reducible show wpAny _ _ (subscriptTail _ (PySem.Expr.Slice none none (some _) _) (Value.ref _) (Value.ref _)) _ _ _); k_dflt (refine' krv_lit ?zqF ?zqN ?zql ?zqk ?zqe ?_ ?zqs ?zqt ?zqz; (case zqF => k_asm); (case zqN => k_asm); (case zql => kmk_list); (case zqk => exact IsPart.int _ _); (case zqe => exact rfl); (case zqs => with_unfolding_all rfl); (case zqt => kmk_pure); (case zqz => (rw [sizeLine_eq]; simp only [List.size_toArray, List.length_drop]; omega))); intro D' h' F' N' l1; (try k_lt l1))); (first | (with_reducible show wpAny _ _ (subscriptTail _ _ _ (Value.ref _)) _ _ _) | (with_reducible show wpAny _ _ (setItem _ (Value.ref _) _) _ _ _) | dsimp only | skip)) | ((with_reducible show wpAny _ _ (compareOp CmpOp.NotEq (Value.ref _) (Value.ref _)) _ _ _); (with_reducible (k_here; with_unfolding_all (refine' nePair ?zqh1 ?zqh2 ?zqh3 ?zqh4 ?zqo1 ?zqo2 ?zqo3 ?zqo4 ?zqh5 ?_; (case zqh1 => k_asm); (case zqh2 => k_mem); (case zqh3 => k_mem); (case zqh4 => ktr_units); (case zqo1 => exact okNil); (case zqo2 => first | exact okNil | exact okCode _ | with_reducible assumption); (case zqo3 => exact okNil); (case zqo4 => first | exact okNil | exact okCode _ | with_reducible assumption); (case zqh5 => first | with_reducible assumption | exact signEq | exact signNe (by with_reducible assumption) | exact signNil | exact nilSign | exact nilNil)))); (first | (with_reducible show wpAny _ _ (subscriptTail _ _ _ (Value.ref _)) _ _ _) | (with_reducible show wpAny _ _ (setItem _ (Value.ref _) _) _ _ _) | dsimp only | skip)) | ((with_reducible show wpAny _ _ (call (Value.builtin "str.index") _) _ _ _); (with_reducible (k_here; with_unfolding_all (refine idxPiece (by with_reducible assumption) ?_))); (first | (with_reducible show wpAny _ _ (subscriptTail _ _ _ (Value.ref _)) _ _ _) | (with_reducible show wpAny _ _ (setItem _ (Value.ref _) _) _ _ _) | dsimp only | skip)) | ((with_reducible show wpAny _ _ (getMethod (Value.ref _) _ _) _ _ _); (with_reducible (k_here; with_unfolding_all (refine' pileMeth (name := Str.ofString "part_count") (P := _) (f := .ref 105) (t := .type "function") ?zqh1 ?zqh2 ?zqh3 ?zqh4 ?zqh5 ?zqh6 ?zqh7 ?zqh8 ?zqh9 ?zqh10 ?_; (case zqh1 => k_asm); (case zqh2 => k_asm); (case zqh3 => k_asm); (case zqh4 => k_mem); (case zqh5 => k_mem); (case zqh6 => assumption); (case zqh7 => kernel_rfl); (case zqh8 => kernel_rfl); (case zqh9 => decide +kernel); (case zqh10 => decide +kernel)))); (first | (with_reducible show wpAny _ _ (subscriptTail _ _ _ (Value.ref _)) _ _ _) | (with_reducible show wpAny _ _ (setItem _ (Value.ref _) _) _ _ _) | dsimp only | skip)) | ((with_reducible show wpAny _ _ (getMethod (Value.ref _) _ _) _ _ _); (with_reducible (k_here; with_unfolding_all (refine' pileMeth (name := Str.ofString "pop_from") (P := _) (f := .ref 60) (t := .type "function") ?zqh1 ?zqh2 ?zqh3 ?zqh4 ?zqh5 ?zqh6 ?zqh7 ?zqh8 ?zqh9 ?zqh10 ?_; (case zqh1 => k_asm); (case zqh2 => k_asm); (case zqh3 => k_asm); (case zqh4 => k_mem); (case zqh5 => k_mem); (case zqh6 => assumption); (case zqh7 => kernel_rfl); (case zqh8 => kernel_rfl); (case zqh9 => decide +kernel); (case zqh10 => decide +kernel)))); (first | (with_reducible show wpAny _ _ (subscriptTail _ _ _ (Value.ref _)) _ _ _) | (with_reducible show wpAny _ _ (setItem _ (Value.ref _) _) _ _ _) | dsimp only | skip)) | ((with_reducible show wpAny _ _ (getMethod (Value.ref _) _ _) _ _ _); (with_reducible (k_here; with_unfolding_all (refine' pileMeth (name := Str.ofString "push") (P := _) (f := .ref 52) (t := .type "function") ?zqh1 ?zqh2 ?zqh3 ?zqh4 ?zqh5 ?zqh6 ?zqh7 ?zqh8 ?zqh9 ?zqh10 ?_; (case zqh1 => k_asm); (case zqh2 => k_asm); (case zqh3 => k_asm); (case zqh4 => k_mem); (case zqh5 => k_mem); (case zqh6 => assumption); (case zqh7 => kernel_rfl); (case zqh8 => kernel_rfl); (case zqh9 => decide +kernel); (case zqh10 => decide +kernel)))); (first | (with_reducible show wpAny _ _ (subscriptTail _ _ _ (Value.ref _)) _ _ _) | (with_reducible show wpAny _ _ (setItem _ (Value.ref _) _) _ _ _) | dsimp only | skip)) | ((with_reducible show wpAny _ _ (getMethod (Value.ref _) _ _) _ _ _); (with_reducible (k_here; with_unfolding_all (refine' pileMeth (name := Str.ofString "pop") (P := _) (f := .ref 68) (t := .type "function") ?zqh1 ?zqh2 ?zqh3 ?zqh4 ?zqh5 ?zqh6 ?zqh7 ?zqh8 ?zqh9 ?zqh10 ?_; (case zqh1 => k_asm); (case zqh2 => k_asm); (case zqh3 => k_asm); (case zqh4 => k_mem); (case zqh5 => k_mem); (case zqh6 => assumption); (case zqh7 => kernel_rfl); (case zqh8 => kernel_rfl); (case zqh9 => decide +kernel); (case zqh10 => decide +kernel)))); (first | (with_reducible show wpAny _ _ (subscriptTail _ _ _ (Value.ref _)) _ _ _) | (with_reducible show wpAny _ _ (setItem _ (Value.ref _) _) _ _ _) | dsimp only | skip)) | ((with_reducible show wpAny _ _ (call (Value.builtin "list.index") _) _ _ _); (with_reducible (k_here; with_unfolding_all (refine' idxL ?zqh1 ?zqh2 ?zqh3 ?zqh4 ?_; (case zqh1 => with_reducible assumption); (case zqh2 => with_reducible assumption); (case zqh3 => k_asm); (case zqh4 => k_mem)))); (first | (with_reducible show wpAny _ _ (subscriptTail _ _ _ (Value.ref _)) _ _ _) | (with_reducible show wpAny _ _ (setItem _ (Value.ref _) _) _ _ _) | dsimp only | skip)) | ((with_reducible show wpAny _ _ (call (Value.ref _) _) _ _ _); ((k_here; (with_reducible show wpAny _ _ (call (Value.ref 68) _) _ _ _); with_unfolding_all ( refine' DoesTo.use (pop_empty _ _ _ _ _ _ _ _ ?zqa1 ?zqa3) ?zqk1 ?zqk2 ?zqk3 ?zqk4 ?zqk5 ?zqk6 ?zqkU ?zqk7 ?zqk8 ?zqk9 ?_; (case zqk1 => k_asm); (case zqk2 => k_asm); (case zqk3 => k_asm); (case zqk4 => k_asm); (case zqk5 => k_asm); (case zqk6 => first | exact rfl | assumption); (case zqkU => (first | (refine' UpdF.head ?_; with_reducible assumption) | (refine' UpdF.tail ?zu8 ?zv8; (case zu8 => k_ne); (case zv8 => (first | (refine' UpdF.head ?_; with_reducible assumption) | (refine' UpdF.tail ?zu7 ?zv7; (case zu7 => k_ne); (case zv7 => (first | (refine' UpdF.head ?_; with_reducible assumption) | (refine' UpdF.tail ?zu6 ?zv6; (case zu6 => k_ne); (case zv6 => (first | (refine' UpdF.head ?_; with_reducible assumption) | (refine' UpdF.tail ?zu5 ?zv5; (case zu5 => k_ne); (case zv5 => (first | (refine' UpdF.head ?_; with_reducible assumption) | (refine' UpdF.tail ?zu4 ?zv4; (case zu4 => k_ne); (case zv4 => (first | (refine' UpdF.head ?_; with_reducible assumption) | (refine' UpdF.tail ?zu3 ?zv3; (case zu3 => k_ne); (case zv3 => (first | (refine' UpdF.head ?_; with_reducible assumption) | (refine' UpdF.tail ?zu2 ?zv2; (case zu2 => k_ne); (case zv2 => (first | (refine' UpdF.head ?_; with_reducible assumption) | (refine' UpdF.tail ?zu1 ?zv1; (case zu1 => k_ne); (case zv1 => (refine' UpdF.head ?_; with_reducible assumption)))))))))))))))))))))))))); (case zqk7 => (repeat' (first | exact List.forall_mem_nil _ | refine List.forall_mem_cons.mpr ⟨by k_mem, ?_⟩))); (case zqa1 => assumption); (case zqa3 => with_reducible assumption); (case zqk8 => ktr_room); (case zqk9 => ktr_units); intro r9 tl9 o9 h9 tk9 F9 N9 ap9 out9; obtain ⟨eo9, t9, u1, u2, e9, hm9⟩ := out9; subst e9 eo9; (have l9 := apartOf ap9 hm9); (dsimp only [NeAll] at l9); (replace N9 := newsPick (less := (t9, _) :: _) N9 (List.forall_mem_cons.mpr ⟨List.mem_append_left _ hm9, fun _ h => List.mem_append_right _ h⟩)); clear ap9 hm9; (try dsimp only at N9); skip))); (first | (with_reducible show wpAny _ _ (subscriptTail _ _ _ (Value.ref _)) _ _ _) | (with_reducible show wpAny _ _ (setItem _ (Value.ref _) _) _ _ _) | dsimp only | skip)) | ((with_reducible show wpAny _ _ (call (Value.ref _) _) _ _ _); ((k_here; (with_reducible show wpAny _ _ (call (Value.ref 68) _) _ _ _); with_unfolding_all ( refine' DoesTo.use (pop_full _ _ _ _ _ _ _ _ _ _ ?zqa1 ?zqa2 ?zqa3) ?zqk1 ?zqk2 ?zqk3 ?zqk4 ?zqk5 ?zqk6 ?zqkU ?zqk7 ?zqk8 ?zqk9 ?_; (case zqk1 => k_asm); (case zqk2 => k_asm); (case zqk3 => k_asm); (case zqk4 => k_asm); (case zqk5 => k_asm); (case zqk6 => first | exact rfl | assumption); (case zqkU => (first | (refine' UpdF.head ?_; with_reducible assumption) | (refine' UpdF.tail ?zu8 ?zv8; (case zu8 => k_ne); (case zv8 => (first | (refine' UpdF.head ?_; with_reducible assumption) | (refine' UpdF.tail ?zu7 ?zv7; (case zu7 => k_ne); (case zv7 => (first | (refine' UpdF.head ?_; with_reducible assumption) | (refine' UpdF.tail ?zu6 ?zv6; (case zu6 => k_ne); (case zv6 => (first | (refine' UpdF.head ?_; with_reducible assumption) | (refine' UpdF.tail ?zu5 ?zv5; (case zu5 => k_ne); (case zv5 => (first | (refine' UpdF.head ?_; with_reducible assumption) | (refine' UpdF.tail ?zu4 ?zv4; (case zu4 => k_ne); (case zv4 => (first | (refine' UpdF.head ?_; with_reducible assumption) | (refine' UpdF.tail ?zu3 ?zv3; (case zu3 => k_ne); (case zv3 => (first | (refine' UpdF.head ?_; with_reducible assumption) | (refine' UpdF.tail ?zu2 ?zv2; (case zu2 => k_ne); (case zv2 => (first | (refine' UpdF.head ?_; with_reducible assumption) | (refine' UpdF.tail ?zu1 ?zv1; (case zu1 => k_ne); (case zv1 => (refine' UpdF.head ?_; with_reducible assumption)))))))))))))))))))))))))); (case zqk7 => (repeat' (first | exact List.forall_mem_nil _ | refine List.forall_mem_cons.mpr ⟨by k_mem, ?_⟩))); (case zqa1 => assumption); (case zqa2 => first | with_reducible assumption | with_reducible exact ‹∀ v : Value, List.length (_ ++ [v]) ≤ 12› _); (case zqa3 => with_reducible assumption); (case zqk8 => ktr_room); (case zqk9 => ktr_units); intro r9 tl9 o9 h9 tk9 F9 N9 ap9 out9; obtain ⟨e9, n9, eo9⟩ := out9; subst e9 eo9; (replace N9 := newsPick (less := _) N9 (fun _ h => List.mem_append_right _ h)); clear ap9; (try dsimp only at N9); skip))); (first | (with_reducible show wpAny _ _ (subscriptTail _ _ _ (Value.ref _)) _ _ _) | (with_reducible show wpAny _ _ (setItem _ (Value.ref _) _) _ _ _) | dsimp only | skip)) | ((with_reducible show wpAny _ _ (subscriptTail _ _ _ _) _ _ _); (with_reducible (k_here; with_unfolding_all (refine' signAt ?zqh1 ?_ ?zqh2 ?zqh3; (case zqh1 => with_reducible assumption); (case zqh2 => intro _; rfl); (case zqh3 => intro _; rfl)))); (first | (with_reducible show wpAny _ _ (subscriptTail _ _ _ (Value.ref _)) _ _ _) | (with_reducible show wpAny _ _ (setItem _ (Value.ref _) _) _ _ _) | dsimp only | skip)) | (walk1; (first | (with_reducible show wpAny _ _ (subscriptTail _ _ _ (Value.ref _)) _ _ _) | (with_reducible show wpAny _ _ (setItem _ (Value.ref _) _) _ _ _) | dsimp only | skip)) | (dsimp only; walk1) | (leave1; (try dsimp only)) | fail "no step")
            refine Halt.go ?_
            by_cases hkk : k' = codeN c
            · subst hkk
              repeat' (first | (k_unfold; (try dsimp only)) | (k_end; wrow_close) | ((with_reducible show wpAny _ _ (exec (Stmt.For (PySem.Expr.Name _ _) (PySem.Expr.Subscript _ _ _) (_ :: _) [] _) _) _ _ _); (with_reducible (k_here; refine Halt.out ?_)); (first | (with_reducible show wpAny _ _ (subscriptTail _ _ _ (Value.ref _)) _ _ _) | (with_reducible show wpAny _ _ (setItem _ (Value.ref _) _) _ _ _) | dsimp only | skip)) | ((with_reducible show wpAny _ _ (exec (Stmt.For (PySem.Expr.Name _ _) (PySem.Expr.Name _ _) (_ :: _) [] _) _) _ _ _); (with_reducible (k_here; refine Halt.out ?_)); (first | (with_reducible show wpAny _ _ (subscriptTail _ _ _ (Value.ref _)) _ _ _) | (with_reducible show wpAny _ _ (setItem _ (Value.ref _) _) _ _ _) | dsimp only | skip)) | ((with_reducible show wpAny _ _ (subscriptTail (PySem.Expr.Name _ _) (PySem.Expr.Slice _ _ _ _) (Value.ref _) (Value.ref _)) _ _ _); ((k_here; (with_reducible show wpAny _ _ (subscriptTail _ (PySem.Expr.Slice none none (some _) _) (Value.ref _) (Value.ref _)) _ _ _); k_dflt (refine' krv_lit ?zqF ?zqN ?zql ?zqk ?zqe ?_ ?zqs ?zqt ?zqz; (case zqF => k_asm); (case zqN => k_asm); (case zql => kmk_list); (case zqk => exact IsPart.int _ _); (case zqe => exact rfl); (case zqs => with_unfolding_all rfl); (case zqt => kmk_pure); (case zqz => (rw [sizeLine_eq]; simp only [List.size_toArray, List.length_drop]; omega))); intro D' h' F' N' l1; (try k_lt l1))); (first | (with_reducible show wpAny _ _ (subscriptTail _ _ _ (Value.ref _)) _ _ _) | (with_reducible show wpAny _ _ (setItem _ (Value.ref _) _) _ _ _) | dsimp only | skip)) | ((with_reducible show wpAny _ _ (compareOp CmpOp.NotEq (Value.ref _) (Value.ref _)) _ _ _); (with_reducible (k_here; with_unfolding_all (refine' nePair ?zqh1 ?zqh2 ?zqh3 ?zqh4 ?zqo1 ?zqo2 ?zqo3 ?zqo4 ?zqh5 ?_; (case zqh1 => k_asm); (case zqh2 => k_mem); (case zqh3 => k_mem); (case zqh4 => ktr_units); (case zqo1 => exact okNil); (case zqo2 => first | exact okNil | exact okCode _ | with_reducible assumption); (case zqo3 => exact okNil); (case zqo4 => first | exact okNil | exact okCode _ | with_reducible assumption); (case zqh5 => first | with_reducible assumption | exact signEq | exact signNe (by with_reducible assumption) | exact signNil | exact nilSign | exact nilNil)))); (first | (with_reducible show wpAny _ _ (subscriptTail _ _ _ (Value.ref _)) _ _ _) | (with_reducible show wpAny _ _ (setItem _ (Value.ref _) _) _ _ _) | dsimp only | skip)) | ((with_reducible show wpAny _ _ (call (Value.builtin "str.index") _) _ _ _); (with_reducible (k_here; with_unfolding_all (refine idxPiece (by with_reducible assumption) ?_))); (first | (with_reducible show wpAny _ _ (subscriptTail _ _ _ (Value.ref _)) _ _ _) | (with_reducible show wpAny _ _ (setItem _ (Value.ref _) _) _ _ _) | dsimp only | skip)) | ((with_reducible show wpAny _ _ (getMethod (Value.ref _) _ _) _ _ _); (with_reducible (k_here; with_unfolding_all (refine' pileMeth (name := Str.ofString "part_count") (P := _) (f := .ref 105) (t := .type "function") ?zqh1 ?zqh2 ?zqh3 ?zqh4 ?zqh5 ?zqh6 ?zqh7 ?zqh8 ?zqh9 ?zqh10 ?_; (case zqh1 => k_asm); (case zqh2 => k_asm); (case zqh3 => k_asm); (case zqh4 => k_mem); (case zqh5 => k_mem); (case zqh6 => assumption); (case zqh7 => kernel_rfl); (case zqh8 => kernel_rfl); (case zqh9 => decide +kernel); (case zqh10 => decide +kernel)))); (first | (with_reducible show wpAny _ _ (subscriptTail _ _ _ (Value.ref _)) _ _ _) | (with_reducible show wpAny _ _ (setItem _ (Value.ref _) _) _ _ _) | dsimp only | skip)) | ((with_reducible show wpAny _ _ (getMethod (Value.ref _) _ _) _ _ _); (with_reducible (k_here; with_unfolding_all (refine' pileMeth (name := Str.ofString "pop_from") (P := _) (f := .ref 60) (t := .type "function") ?zqh1 ?zqh2 ?zqh3 ?zqh4 ?zqh5 ?zqh6 ?zqh7 ?zqh8 ?zqh9 ?zqh10 ?_; (case zqh1 => k_asm); (case zqh2 => k_asm); (case zqh3 => k_asm); (case zqh4 => k_mem); (case zqh5 => k_mem); (case zqh6 => assumption); (case zqh7 => kernel_rfl); (case zqh8 => kernel_rfl); (case zqh9 => decide +kernel); (case zqh10 => decide +kernel)))); (first | (with_reducible show wpAny _ _ (subscriptTail _ _ _ (Value.ref _)) _ _ _) | (with_reducible show wpAny _ _ (setItem _ (Value.ref _) _) _ _ _) | dsimp only | skip)) | ((with_reducible show wpAny _ _ (getMethod (Value.ref _) _ _) _ _ _); (with_reducible (k_here; with_unfolding_all (refine' pileMeth (name := Str.ofString "push") (P := _) (f := .ref 52) (t := .type "function") ?zqh1 ?zqh2 ?zqh3 ?zqh4 ?zqh5 ?zqh6 ?zqh7 ?zqh8 ?zqh9 ?zqh10 ?_; (case zqh1 => k_asm); (case zqh2 => k_asm); (case zqh3 => k_asm); (case zqh4 => k_mem); (case zqh5 => k_mem); (case zqh6 => assumption); (case zqh7 => kernel_rfl); (case zqh8 => kernel_rfl); (case zqh9 => decide +kernel); (case zqh10 => decide +kernel)))); (first | (with_reducible show wpAny _ _ (subscriptTail _ _ _ (Value.ref _)) _ _ _) | (with_reducible show wpAny _ _ (setItem _ (Value.ref _) _) _ _ _) | dsimp only | skip)) | ((with_reducible show wpAny _ _ (getMethod (Value.ref _) _ _) _ _ _); (with_reducible (k_here; with_unfolding_all (refine' pileMeth (name := Str.ofString "pop") (P := _) (f := .ref 68) (t := .type "function") ?zqh1 ?zqh2 ?zqh3 ?zqh4 ?zqh5 ?zqh6 ?zqh7 ?zqh8 ?zqh9 ?zqh10 ?_; (case zqh1 => k_asm); (case zqh2 => k_asm); (case zqh3 => k_asm); (case zqh4 => k_mem); (case zqh5 => k_mem); (case zqh6 => assumption); (case zqh7 => kernel_rfl); (case zqh8 => kernel_rfl); (case zqh9 => decide +kernel); (case zqh10 => decide +kernel)))); (first | (with_reducible show wpAny _ _ (subscriptTail _ _ _ (Value.ref _)) _ _ _) | (with_reducible show wpAny _ _ (setItem _ (Value.ref _) _) _ _ _) | dsimp only | skip)) | ((with_reducible show wpAny _ _ (call (Value.builtin "list.index") _) _ _ _); (with_reducible (k_here; with_unfolding_all (refine' idxL ?zqh1 ?zqh2 ?zqh3 ?zqh4 ?_; (case zqh1 => with_reducible assumption); (case zqh2 => with_reducible assumption); (case zqh3 => k_asm); (case zqh4 => k_mem)))); (first | (with_reducible show wpAny _ _ (subscriptTail _ _ _ (Value.ref _)) _ _ _) | (with_reducible show wpAny _ _ (setItem _ (Value.ref _) _) _ _ _) | dsimp only | skip)) | ((with_reducible show wpAny _ _ (subscriptTail _ _ _ _) _ _ _); (with_reducible (k_here; with_unfolding_all (refine' signAt ?zqh1 ?_ ?zqh2 ?zqh3; (case zqh1 => with_reducible assumption); (case zqh2 => intro _; rfl); (case zqh3 => intro _; rfl)))); (first | (with_reducible show wpAny _ _ (subscriptTail _ _ _ (Value.ref _)) _ _ _) | (with_reducible show wpAny _ _ (setItem _ (Value.ref _) _) _ _ _) | dsimp only | skip)) | (walk1; (first | (with_reducible show wpAny _ _ (subscriptTail _ _ _ (Value.ref _)) _ _ _) | (with_reducible show wpAny _ _ (setItem _ (Value.ref _) _) _ _ _) | dsimp only | skip)) | (dsimp only; walk1) | (leave1; (try dsimp only)) | fail "no step")
              rename News _ _ _ _ => N3
              rename Fr _ _ _ _ => F3
              rename EntsE w _ _ (turnE c e) => E9
              refine runNext [] F3 N3 (by rw [stepR_push hc hx4, pushS_same] <;> rfl) E9 (by assumption) (by assumption) hInv hI hnp hsub (by k_mem) (by k_mem) (by k_mem) (by k_mem) (by k_mem) (by k_mem) (fun q hq => by repeat (first | exact hq | refine List.Mem.tail _ ?_)) (List.forall_mem_nil _) (List.forall_mem_nil _) (List.forall_mem_nil _) (hpw.mono (by assumption)) (by kst_all) (by kst_same)
            · repeat' (first | (k_unfold; (try dsimp only)) | (k_end; wrow_close) | ((with_reducible show wpAny _ _ (exec (Stmt.For (PySem.Expr.Name _ _) (PySem.Expr.Subscript _ _ _) (_ :: _) [] _) _) _ _ _); (with_reducible (k_here; refine Halt.out ?_)); (first | (with_reducible show wpAny _ _ (subscriptTail _ _ _ (Value.ref _)) _ _ _) | (with_reducible show wpAny _ _ (setItem _ (Value.ref _) _) _ _ _) | dsimp only | skip)) | ((with_reducible show wpAny _ _ (exec (Stmt.For (PySem.Expr.Name _ _) (PySem.Expr.Name _ _) (_ :: _) [] _) _) _ _ _); (with_reducible (k_here; refine Halt.out ?_)); (first | (with_reducible show wpAny _ _ (subscriptTail _ _ _ (Value.ref _)) _ _ _) | (with_reducible show wpAny _ _ (setItem _ (Value.ref _) _) _ _ _) | dsimp only | skip)) | ((with_reducible show wpAny _ _ (subscriptTail (PySem.Expr.Name _ _) (PySem.Expr.Slice _ _ _ _) (Value.ref _) (Value.ref _)) _ _ _); ((k_here; (with_reducible show wpAny _ _ (subscriptTail _ (PySem.Expr.Slice none none (some _) _) (Value.ref _) (Value.ref _)) _ _ _); k_dflt (refine' krv_lit ?zqF ?zqN ?zql ?zqk ?zqe ?_ ?zqs ?zqt ?zqz; (case zqF => k_asm); (case zqN => k_asm); (case zql => kmk_list); (case zqk => exact IsPart.int _ _); (case zqe => exact rfl); (case zqs => with_unfolding_all rfl); (case zqt => kmk_pure); (case zqz => (rw [sizeLine_eq]; simp only [List.size_toArray, List.length_drop]; omega))); intro D' h' F' N' l1; (try k_lt l1))); (first | (with_reducible show wpAny _ _ (subscriptTail _ _ _ (Value.ref _)) _ _ _) | (with_reducible show wpAny _ _ (setItem _ (Value.ref _) _) _ _ _) | dsimp only | skip)) | ((with_reducible show wpAny _ _ (compareOp CmpOp.NotEq (Value.ref _) (Value.ref _)) _ _ _); (with_reducible (k_here; with_unfolding_all (refine' nePair ?zqh1 ?zqh2 ?zqh3 ?zqh4 ?zqo1 ?zqo2 ?zqo3 ?zqo4 ?zqh5 ?_; (case zqh1 => k_asm); (case zqh2 => k_mem); (case zqh3 => k_mem); (case zqh4 => ktr_units); (case zqo1 => exact okNil); (case zqo2 => first | exact okNil | exact okCode _ | with_reducible assumption); (case zqo3 => exact okNil); (case zqo4 => first | exact okNil | exact okCode _ | with_reducible assumption); (case zqh5 => first | with_reducible assumption | exact signEq | exact signNe (by with_reducible assumption) | exact signNil | exact nilSign | exact nilNil)))); (first | (with_reducible show wpAny _ _ (subscriptTail _ _ _ (Value.ref _)) _ _ _) | (with_reducible show wpAny _ _ (setItem _ (Value.ref _) _) _ _ _) | dsimp only | skip)) | ((with_reducible show wpAny _ _ (call (Value.builtin "str.index") _) _ _ _); (with_reducible (k_here; with_unfolding_all (refine idxPiece (by with_reducible assumption) ?_))); (first | (with_reducible show wpAny _ _ (subscriptTail _ _ _ (Value.ref _)) _ _ _) | (with_reducible show wpAny _ _ (setItem _ (Value.ref _) _) _ _ _) | dsimp only | skip)) | ((with_reducible show wpAny _ _ (getMethod (Value.ref _) _ _) _ _ _); (with_reducible (k_here; with_unfolding_all (refine' pileMeth (name := Str.ofString "part_count") (P := _) (f := .ref 105) (t := .type "function") ?zqh1 ?zqh2 ?zqh3 ?zqh4 ?zqh5 ?zqh6 ?zqh7 ?zqh8 ?zqh9 ?zqh10 ?_; (case zqh1 => k_asm); (case zqh2 => k_asm); (case zqh3 => k_asm); (case zqh4 => k_mem); (case zqh5 => k_mem); (case zqh6 => assumption); (case zqh7 => kernel_rfl); (case zqh8 => kernel_rfl); (case zqh9 => decide +kernel); (case zqh10 => decide +kernel)))); (first | (with_reducible show wpAny _ _ (subscriptTail _ _ _ (Value.ref _)) _ _ _) | (with_reducible show wpAny _ _ (setItem _ (Value.ref _) _) _ _ _) | dsimp only | skip)) | ((with_reducible show wpAny _ _ (getMethod (Value.ref _) _ _) _ _ _); (with_reducible (k_here; with_unfolding_all (refine' pileMeth (name := Str.ofString "pop_from") (P := _) (f := .ref 60) (t := .type "function") ?zqh1 ?zqh2 ?zqh3 ?zqh4 ?zqh5 ?zqh6 ?zqh7 ?zqh8 ?zqh9 ?zqh10 ?_; (case zqh1 => k_asm); (case zqh2 => k_asm); (case zqh3 => k_asm); (case zqh4 => k_mem); (case zqh5 => k_mem); (case zqh6 => assumption); (case zqh7 => kernel_rfl); (case zqh8 => kernel_rfl); (case zqh9 => decide +kernel); (case zqh10 => decide +kernel)))); (first | (with_reducible show wpAny _ _ (subscriptTail _ _ _ (Value.ref _)) _ _ _) | (with_reducible show wpAny _ _ (setItem _ (Value.ref _) _) _ _ _) | dsimp only | skip)) | ((with_reducible show wpAny _ _ (getMethod (Value.ref _) _ _) _ _ _); (with_reducible (k_here; with_unfolding_all (refine' pileMeth (name := Str.ofString "push") (P := _) (f := .ref 52) (t := .type "function") ?zqh1 ?zqh2 ?zqh3 ?zqh4 ?zqh5 ?zqh6 ?zqh7 ?zqh8 ?zqh9 ?zqh10 ?_; (case zqh1 => k_asm); (case zqh2 => k_asm); (case zqh3 => k_asm); (case zqh4 => k_mem); (case zqh5 => k_mem); (case zqh6 => assumption); (case zqh7 => kernel_rfl); (case zqh8 => kernel_rfl); (case zqh9 => decide +kernel); (case zqh10 => decide +kernel)))); (first | (with_reducible show wpAny _ _ (subscriptTail _ _ _ (Value.ref _)) _ _ _) | (with_reducible show wpAny _ _ (setItem _ (Value.ref _) _) _ _ _) | dsimp only | skip)) | ((with_reducible show wpAny _ _ (getMethod (Value.ref _) _ _) _ _ _); (with_reducible (k_here; with_unfolding_all (refine' pileMeth (name := Str.ofString "pop") (P := _) (f := .ref 68) (t := .type "function") ?zqh1 ?zqh2 ?zqh3 ?zqh4 ?zqh5 ?zqh6 ?zqh7 ?zqh8 ?zqh9 ?zqh10 ?_; (case zqh1 => k_asm); (case zqh2 => k_asm); (case zqh3 => k_asm); (case zqh4 => k_mem); (case zqh5 => k_mem); (case zqh6 => assumption); (case zqh7 => kernel_rfl); (case zqh8 => kernel_rfl); (case zqh9 => decide +kernel); (case zqh10 => decide +kernel)))); (first | (with_reducible show wpAny _ _ (subscriptTail _ _ _ (Value.ref _)) _ _ _) | (with_reducible show wpAny _ _ (setItem _ (Value.ref _) _) _ _ _) | dsimp only | skip)) | ((with_reducible show wpAny _ _ (call (Value.builtin "list.index") _) _ _ _); (with_reducible (k_here; with_unfolding_all (refine' idxL ?zqh1 ?zqh2 ?zqh3 ?zqh4 ?_; (case zqh1 => with_reducible assumption); (case zqh2 => with_reducible assumption); (case zqh3 => k_asm); (case zqh4 => k_mem)))); (first | (with_reducible show wpAny _ _ (subscriptTail _ _ _ (Value.ref _)) _ _ _) | (with_reducible show wpAny _ _ (setItem _ (Value.ref _) _) _ _ _) | dsimp only | skip)) | ((with_reducible show wpAny _ _ (call (Value.ref _) _) _ _ _); ((k_here; (with_reducible show wpAny _ _ (call (Value.ref 52) _) _ _ _); with_unfolding_all ( refine' DoesTo.use (push_does _ _ _ _ _ _ _ _ _ _ _ _ _ ?zqa1 ?zqa2 ?zqa3) ?zqk1 ?zqk2 ?zqk3 ?zqk4 ?zqk5 ?zqk6 ?zqkU ?zqk7 ?zqk8 ?zqk9 ?_; (case zqk1 => k_asm); (case zqk2 => k_asm); (case zqk3 => k_asm); (case zqk4 => k_asm); (case zqk5 => k_asm); (case zqk6 => first | exact rfl | assumption); (case zqkU => (first | (refine' UpdF.head ?_; with_reducible assumption) | (refine' UpdF.tail ?zu8 ?zv8; (case zu8 => k_ne); (case zv8 => (first | (refine' UpdF.head ?_; with_reducible assumption) | (refine' UpdF.tail ?zu7 ?zv7; (case zu7 => k_ne); (case zv7 => (first | (refine' UpdF.head ?_; with_reducible assumption) | (refine' UpdF.tail ?zu6 ?zv6; (case zu6 => k_ne); (case zv6 => (first | (refine' UpdF.head ?_; with_reducible assumption) | (refine' UpdF.tail ?zu5 ?zv5; (case zu5 => k_ne); (case zv5 => (first | (refine' UpdF.head ?_; with_reducible assumption) | (refine' UpdF.tail ?zu4 ?zv4; (case zu4 => k_ne); (case zv4 => (first | (refine' UpdF.head ?_; with_reducible assumption) | (refine' UpdF.tail ?zu3 ?zv3; (case zu3 => k_ne); (case zv3 => (first | (refine' UpdF.head ?_; with_reducible assumption) | (refine' UpdF.tail ?zu2 ?zv2; (case zu2 => k_ne); (case zv2 => (first | (refine' UpdF.head ?_; with_reducible assumption) | (refine' UpdF.tail ?zu1 ?zv1; (case zu1 => k_ne); (case zv1 => (refine' UpdF.head ?_; with_reducible assumption)))))))))))))))))))))))))); (case zqk7 => (repeat' (first | exact List.forall_mem_nil _ | refine List.forall_mem_cons.mpr ⟨by k_mem, ?_⟩))); (case zqa1 => assumption); (case zqa2 => first | with_reducible assumption | with_reducible exact ‹∀ v : Value, List.length (_ ++ [v]) ≤ 12› _); (case zqa3 => with_reducible assumption); (case zqk8 => ktr_room); (case zqk9 => ktr_units); intro r9 tl9 o9 h9 tk9 F9 N9 ap9 out9; obtain ⟨t9, n9, n8, eo9, hm9⟩ := out9; subst eo9; (have l9 := apartOf ap9 hm9); (dsimp only [NeAll] at l9); (replace N9 := newsPick (less := (t9, _) :: _) N9 (List.forall_mem_cons.mpr ⟨List.mem_append_left _ hm9, fun _ h => List.mem_append_right _ h⟩)); clear ap9 hm9; (try dsimp only at N9); skip))); (first | (with_reducible show wpAny _ _ (subscriptTail _ _ _ (Value.ref _)) _ _ _) | (with_reducible show wpAny _ _ (setItem _ (Value.ref _) _) _ _ _) | dsimp only | skip)) | ((with_reducible show wpAny _ _ (subscriptTail _ _ _ _) _ _ _); (with_reducible (k_here; with_unfolding_all (refine' signAt ?zqh1 ?_ ?zqh2 ?zqh3; (case zqh1 => with_reducible assumption); (case zqh2 => intro _; rfl); (case zqh3 => intro _; rfl)))); (first | (with_reducible show wpAny _ _ (subscriptTail _ _ _ (Value.ref _)) _ _ _) | (with_reducible show wpAny _ _ (setItem _ (Value.ref _) _) _ _ _) | dsimp only | skip)) | (walk1; (first | (with_reducible show wpAny _ _ (subscriptTail _ _ _ (Value.ref _)) _ _ _) | (with_reducible show wpAny _ _ (setItem _ (Value.ref _) _) _ _ _) | dsimp only | skip)) | (dsimp only; walk1) | (leave1; (try dsimp only)) | fail "no step")
              rename News _ _ _ _ => N3
              rename Fr _ _ _ _ => F3
              rename EntsE w _ _ (turnE c e) => E9
              refine runNext [(_, _), (_, _)] F3 N3 (by rw [stepR_push hc hx4, pushS_diff hkk] <;> rfl) E9 (by assumption) (by assumption) hInv hI hnp hsub (by k_mem) (by k_mem) (by k_mem) (by k_mem) (by k_mem) (by k_mem) (fun q hq => by repeat (first | exact hq | refine List.Mem.tail _ ?_)) (List.forall_mem_cons.mpr ⟨List.Mem.head _, List.forall_mem_cons.mpr ⟨.tail _ (.head _), List.forall_mem_nil _⟩⟩) (List.forall_mem_cons.mpr ⟨by k_ne, List.forall_mem_cons.mpr ⟨by k_ne, List.forall_mem_nil _⟩⟩) (List.forall_mem_cons.mpr ⟨by k_ne, List.forall_mem_cons.mpr ⟨by k_ne, List.forall_mem_nil _⟩⟩) (((hpw.mono (by assumption)).mono (fun q hq => .tail _ (.tail _ hq))).append (.cons ⟨_, _, _, _, rfl, .tail _ (.head _)⟩ .nil) |>.append (.cons ⟨_, _, _, _, rfl, List.Mem.head _⟩ .nil)) (by kst_all) (by kst_same)
end
end Mine
end

section
open PySem PySem.W PyProof.Rows
set_option Elab.async false
set_option maxRecDepth 100000
set_option maxHeartbeats 0
namespace Mine
/-- the top's run over a tree of objects -/
noncomputable def runT (stp : SharedT → Thread → Option (SharedT × Thread)) (ok thr : Thread → Bool) : Nat → SharedT → Thread → Option SharedT
  | 0, _, _ => none
  | n + 1, s, t => match thr t with
    | true => some s
    | false => match ok t with
      | false => none
      | true => match stp s t with
        | some r => runT stp ok thr n r.1 r.2
        | none => none
theorem runT_spec {tb : String → Option Builtin} {p : Program} {w : World} {n₀ : Nat} {ann : Option Value} : ∀ {n : Nat} {s s' : SharedT} {t : Thread}, runT (PySem.W.stepT (denote tb) p w) (stepOk n₀ ann) through n s t = some s' → topRun tb p w n₀ ann n s.abs t = some s'.abs
  | 0, _, _, _, h => by cases h
  | n + 1, s, s', t, h => by
    unfold runT at h
    unfold topRun
    cases ht : through t with
    | true => rw [ht] at h; cases h; rfl
    | false =>
      rw [ht] at h
      cases hk : stepOk n₀ ann t with
      | false => rw [hk] at h; cases h
      | true =>
        rw [hk] at h
        cases hs : PySem.W.stepT (denote tb) p w s t with
        | none => rw [hs] at h; cases h
        | some r => obtain ⟨s₂, t₂⟩ := r; rw [hs] at h; rw [stepT_spec hs]; exact runT_spec h
def treeOf (h : Heap) : BT := (h.objs.toList.foldl (fun (t : BT × Nat) o => (t.1.ins t.2 o, t.2 + 1)) (.nil, 0)).1
theorem boot_abs (P : Params) : absHeap (treeOf (boot_heap P)) 11 {} = boot_heap P := by kernel_rfl
theorem boot_size (w : World) : ((boot_heap w.params).isNs mainGlobals && (Array.mk [] : Array GenState).size == 0, (boot_heap w.params).objs.size, (boot_heap w.params).nsMap mainGlobals "__annotations__") = (true, 11, some (.ref 6)) := by kernel_rfl
theorem open_eq : opening pw = plainProg pw.main.scope.names := by kernel_rfl
theorem fence_eq (s : Shared) : fenceModules? pw s = some s := by kernel_rfl
theorem open63 : ∀ w : World, (fencedOpening treeTable pw w 5236).map (fun s => (s.heap, s.gens, s.drawn, s.toks)) = some (boot_heap w.params, Array.mk [], boot_drawn, 181) := boot_open (p := pw) open_eq (by decide) fence_eq
/-- what is looked at behind the top's run -/
noncomputable def lv63 : List (Str × WData) := [(Str.ofString "ONE_THIRD", .float 4599676419421066581), (Str.ofString "ONE_SIXTH", .float 4595172819793696085)]
/-- a def's code table is not 77 -/
def farOf (h : Heap) (a : Addr) : Bool := match h.get? a with
  | some o => (match o.data with
    | .func fd => (match fd.code with
      | .ref c => (match h.get? c with
        | some oc => (match oc.data with
          | .fields vs => (match vs[11]? with
            | some (Value.ref P) => P != 77
            | _ => false)
          | _ => false)
        | none => false)
      | _ => false)
    | _ => false)
  | none => false
theorem farOf_keeps {h h' : Heap} {a : Addr} (e : farOf h a = true) (k : ∀ b o, h.get? b = some o → h'.get? b = some o) : farOf h' a = true := by
  unfold farOf at e
  split at e
  · rename_i o ho
    unfold farOf
    rw [k _ _ ho]
    dsimp only
    split at e
    · rename_i fd hd
      try rw [hd]
      try dsimp only
      split at e
      · rename_i c hc
        try rw [hc]
        try dsimp only
        split at e
        · rename_i oc hoc
          rw [k _ _ hoc]
          exact e
        · cases e
      · cases e
    · cases e
  · cases e
noncomputable def obs63 (s : Shared) : List (Option Obj) × Option Obj × Bool := (keys63.map s.heap.get?, s.heap.get? 77, farOf s.heap 21)
noncomputable def val63 (K : Params → Frag) (w : World) : List (Option Obj) × Option Obj × Bool := ((K w.params).map fun p => some p.2, some (PySem.W.X.tableObj #[]), true)
def treeL (l : List Obj) : BT := (l.foldl (fun (t : BT × Nat) o => (t.1.ins t.2 o, t.2 + 1)) (.nil, 0)).1
noncomputable def heap63 (P : Params) : Heap := ⟨(objs63 P).toArray, {}⟩
theorem abs63 (P : Params) : absHeap (treeL (objs63 P)) 215 {} = heap63 P := by kernel_rfl
abbrev Run63 (w : World) : Prop := (fun os => runT (PySem.W.stepT (denote treeTable) pw w) (stepOk 11 (some (.ref 6))) through 2569 ⟨treeOf (boot_heap w.params), 11, {}, Array.mk [], boot_drawn, 181, os⟩ (topStub pw)) = fun os => some ⟨treeL (objs63 w.params), 215, {}, Array.mk [], boot_drawn, 671, os⟩
theorem run_row (b : Bool) (h : ∀ w : World, (fun os => runT (PySem.W.Fast.tw10156331382660048174 (PySem.W.Fast.tw11892475500146522536 PySem.W.Fast.tw14364793385576792824) pwS.1 (w.withFollow "special-get-raises" b)) (PySem.W.Fast.tw6613529449190102663 11 (some (.ref 6))) through 2569 ⟨treeOf (boot_heap (w.withFollow "special-get-raises" b).params), 11, {}, Array.mk [], boot_drawn, 181, os⟩ (topStub pwS.1)) = fun os => some ⟨treeL (objsS.1 (w.withFollow "special-get-raises" b).params), 215, {}, Array.mk [], boot_drawn, 671, os⟩) : ∀ w : World, Run63 (w.withFollow "special-get-raises" b) := by
  intro w
  unfold Run63
  rw [PySem.W.Fast.te10156331382660048174, PySem.W.Fast.te11892475500146522536, PySem.W.Fast.te14364793385576792824, PySem.W.Fast.te6613529449190102663, pwS.2, objsS.2]
  exact h w
theorem run_false : ∀ w : World, Run63 (w.withFollow "special-get-raises" false) := run_row false (by intro w; kernel_rfl)
end Mine
end

section
open PySem PySem.W PyProof.Rows
set_option Elab.async false
set_option maxRecDepth 100000
set_option maxHeartbeats 0


namespace Mine
theorem run_true : ∀ w : World, Run63 (w.withFollow "special-get-raises" true) := run_row true (by intro w; kernel_rfl)
theorem run63 : ∀ w : World, Run63 w := byRow2 "special-get-raises" run_false run_true
noncomputable abbrev Lk {α : Type} (imp : List Stmt → List Str) (p : Program) (os : Program → List Str → List Str → (Shared → Bool) → Bool → Shared → α) (q : Program) (l : List Str) (O : Params → List Obj) (w : World) (s : OsState) : α :=
  os q l (imp p.main.body) (fun s => xlAt q lv63 s && recOk [] s) true ⟨⟨(O w.params).toArray, {}⟩, Array.mk [], boot_drawn, 671, s⟩
theorem look0 (w : World) (os : OsState) : (staticsOk (PySem.W.Fast.tw5923862056798008813 pwS.1.main.body) (boot_heap w.params) ⟨(objsS.1 w.params).toArray, {}⟩ && namesBound pwS.1 ⟨(objsS.1 w.params).toArray, {}⟩ && gensDone ⟨⟨(objsS.1 w.params).toArray, {}⟩, Array.mk [], boot_drawn, 671, os⟩ && laidKept (boot_heap w.params) ⟨(objsS.1 w.params).toArray, {}⟩) = true := by kernel_rfl
end Mine
theorem Mine.look1 (w : World) (os : OsState) : (Mine.Lk PySem.W.Fast.tw5923862056798008813 Mine.pwS.1 PySem.W.Fast.tw4187177175401517315 Mine.viewS.1 Mine.looseS.1 Mine.objsS.1 w os).1 = expectedOf Mine.viewS.1 := by kernel_rfl
theorem Mine.look2 (w : World) (os : OsState) : (Mine.Lk PySem.W.Fast.tw5923862056798008813 Mine.pwS.1 PySem.W.Fast.tw4187177175401517315 Mine.viewS.1 Mine.looseS.1 Mine.objsS.1 w os).2.1 = bltViewBooted := by kernel_rfl
theorem Mine.look3 (w : World) (os : OsState) : (Mine.Lk PySem.W.Fast.tw5923862056798008813 Mine.pwS.1 PySem.W.Fast.tw4187177175401517315 Mine.viewS.1 Mine.looseS.1 Mine.objsS.1 w os).2.2.1 = true := by kernel_rfl
theorem Mine.look4 (w : World) (os : OsState) : (Mine.Lk PySem.W.Fast.tw5923862056798008813 Mine.pwS.1 PySem.W.Fast.tw4187177175401517315 Mine.viewS.1 Mine.looseS.1 Mine.objsS.1 w os).2.2.2.1 = true := by kernel_rfl
theorem Mine.look5 (w : World) (os : OsState) : (Mine.Lk PySem.W.Fast.tw5923862056798008813 Mine.pwS.1 PySem.W.Fast.tw4187177175401517315 Mine.viewS.1 Mine.looseS.1 Mine.objsS.1 w os).2.2.2.2.1 = pinGoodD (drecsOf Mine.viewS.1) := by kernel_rfl
theorem Mine.look6 (w : World) (os : OsState) : (Mine.Lk PySem.W.Fast.tw5923862056798008813 Mine.pwS.1 PySem.W.Fast.tw4187177175401517315 Mine.viewS.1 Mine.looseS.1 Mine.objsS.1 w os).2.2.2.2.2.1 = plainGoodE Mine.viewS.1 (looseW Mine.viewS.1 Mine.looseS.1) := by kernel_rfl
theorem Mine.look7 (w : World) (os : OsState) : (Mine.Lk PySem.W.Fast.tw5923862056798008813 Mine.pwS.1 PySem.W.Fast.tw4187177175401517315 Mine.viewS.1 Mine.looseS.1 Mine.objsS.1 w os).2.2.2.2.2.2.1 = plainGoodD Mine.viewS.1 Mine.looseS.1 := by kernel_rfl
theorem Mine.look8 (w : World) (os : OsState) : (Mine.Lk PySem.W.Fast.tw5923862056798008813 Mine.pwS.1 PySem.W.Fast.tw4187177175401517315 Mine.viewS.1 Mine.looseS.1 Mine.objsS.1 w os).2.2.2.2.2.2.2.1 = wideGood Mine.viewS.1 := by kernel_rfl
theorem Mine.look9 (w : World) (os : OsState) : (Mine.Lk PySem.W.Fast.tw5923862056798008813 Mine.pwS.1 PySem.W.Fast.tw4187177175401517315 Mine.viewS.1 Mine.looseS.1 Mine.objsS.1 w os).2.2.2.2.2.2.2.2 = clsGoodW Mine.viewS.1 Mine.looseS.1 := by kernel_rfl
end

section
open PySem PySem.W PyProof.Rows
set_option Elab.async false
set_option maxRecDepth 100000
set_option maxHeartbeats 0


namespace Mine
noncomputable def rwT : OpenLaw := { PySem.Challenge.rw_xg0063_01 with prog := pwS.1 }
theorem rw_eq : PySem.Challenge.rw_xg0063_01 = rwT := by
  have h : PySem.Challenge.rw_xg0063_01 = { PySem.Challenge.rw_xg0063_01 with prog := PySem.Challenge.pw_xg0063_01 } := rfl
  rw [h]
  exact congrArg (fun p => ({ PySem.Challenge.rw_xg0063_01 with prog := p } : OpenLaw)) pwS.2
theorem said : rwT.wellSaid = true := by
  unfold OpenLaw.wellSaid OpenRow.wellSaid OpenRow.partSaid looksOpen
  rw [PySem.W.Fast.te8377067652309620493, PySem.W.Fast.te8326940854005059898, PySem.W.Fast.te17119622794617984870, PySem.W.Fast.te6984425678791042302, PySem.W.Fast.named_eq, PySem.W.Fast.te18344453789297297638, PySem.W.Fast.sDec_eq, PySem.W.Fast.te8179353310426384613, PySem.W.Fast.te16286561074155671207, PySem.W.Fast.te5923862056798008813, PySem.W.Fast.te17868728402115742887, PySem.W.Fast.te797321630700447069, PySem.W.Fast.te14412699480532031325]
  kernel_rfl
end Mine
end

section
open PySem PySem.W PyProof.Rows PySem.Calls PySem.Spec
set_option Elab.async false
set_option maxRecDepth 100000
set_option maxHeartbeats 0
namespace Mine
noncomputable abbrev s63 (w : World) (os : OsState) : Shared := ⟨⟨(objs63 w.params).toArray, {}⟩, Array.mk [], boot_drawn, 671, os⟩
theorem seen63 (w : World) (os : OsState) : openSeen view63 loose63 (importedModules pw.main.body) (fun s => xlAt view63 lv63 s && recOk [] s) true (s63 w os) = openGood view63 loose63 := by
  unfold s63
  rw [PySem.W.Fast.te5923862056798008813, PySem.W.Fast.te4187177175401517315, pwS.2, viewS.2, looseS.2, objsS.2]
  exact Prod.ext (look1 w os) (Prod.ext (look2 w os) (Prod.ext (look3 w os) (Prod.ext (look4 w os) (Prod.ext (look5 w os) (Prod.ext (look6 w os) (Prod.ext (look7 w os) (Prod.ext (look8 w os) (look9 w os))))))))
theorem kept63 (w : World) (os : OsState) : (staticsOk (importedModules pw.main.body) (boot_heap w.params) (heap63 w.params) && namesBound pw (heap63 w.params) && gensDone ⟨heap63 w.params, Array.mk [], boot_drawn, 671, os⟩ && laidKept (boot_heap w.params) (heap63 w.params)) = true := by
  unfold heap63
  rw [PySem.W.Fast.te5923862056798008813, pwS.2, objsS.2]
  exact look0 w os
theorem obs_eq (w : World) (os : OsState) : obs63 (s63 w os) = val63 K63 w := by kernel_rfl
theorem topRun63 (w : World) (os : OsState) : topRun treeTable pw w 11 (some (.ref 6)) 2569 ⟨boot_heap w.params, Array.mk [], boot_drawn, 181, os⟩ (topStub pw) = some ⟨heap63 w.params, Array.mk [], boot_drawn, 671, os⟩ := by
  have r := runT_spec (congrFun (run63 w) os)
  unfold SharedT.abs at r
  dsimp only at r
  rw [boot_abs, abs63] at r
  exact r
theorem left63 : LeftO pw view63 loose63 (fun s => xlAt view63 lv63 s && recOk [] s) obs63 (val63 K63) 5236 :=
  LeftO.of_pieces (H₀ := boot_heap) (H₁ := heap63) (gs₀ := Array.mk []) (gs₁ := Array.mk []) (d₀ := boot_drawn) (d₁ := boot_drawn) (k₀ := 181) (k₁ := 671) (m₀ := 11) (ann := some (.ref 6)) (M := 2569)
    open63 boot_size topRun63 (by decide) (fun w => funext fun os => Prod.ext (kept63 w os) (Prod.ext (seen63 w os) (obs_eq w os)))
/-- what the head says of the heap -/
def Says63 (w : World) (h : Heap) : Prop := (K63 w.params).In h ∧ h.get? 77 = some (PySem.W.X.tableObj #[]) ∧ farOf h 21 = true
theorem says_of (w : World) (s : Shared) (e : obs63 s = val63 K63 w) : Says63 w s.heap := ⟨InK.of keys_eq w s (congrArg Prod.fst e), congrArg (fun x => x.2.1) e, congrArg (fun x => x.2.2) e⟩
theorem says_keeps (w : World) (h h' : Heap) (x : Says63 w h) (k : ∀ b o, h.get? b = some o → h'.get? b = some o) : Says63 w h' := ⟨InK.keeps w h h' x.1 k, k _ _ x.2.1, farOf_keeps x.2.2 k⟩
theorem hd63 (hw : PySem.Challenge.rw_xg0063_01.row.toRowW.promised)
    (hc : WalkO view63 loose63 (XL view63 lv63) Says63 PySem.Challenge.rw_xg0063_01.row.toRowW d63 [] fun f vs => PySem.call f vs) : PySem.Challenge.rw_xg0063_01.Holds := by
  have sd : PySem.Challenge.rw_xg0063_01.wellSaid = true := by rw [rw_eq]; exact said
  refine holds_law sd fun sr => ?_
  exact holds_open (q := view63) (loose := loose63) (Xt := fun s => xlAt view63 lv63 s && recOk [] s) (XP := XL view63 lv63) (Yf := obs63) (Ya := val63 K63) (YP := Says63) (N := 5236) left63 says_of says_keeps (fun s e => xl_of s (Bool.and_eq_true_iff.mp e).1) XL.keeps (by kernel_rfl) (by kernel_rfl) (by kernel_rfl) (fun s e => recFacts_of (Bool.and_eq_true_iff.mp e).2) rfl sr (by decide +kernel) ⟨rfl, rfl, rfl, rfl, rfl, by decide +kernel⟩ hw hc
theorem promised63 : PySem.Challenge.rw_xg0063_01.row.toRowW.promised := by w_witness2
end Mine
end

section
set_option exponentiation.threshold 3000
set_option maxRecDepth 10000
namespace Mine
open PySem PySem.Float64
def Fin (x : UInt64) : Prop := ∃ a m e, decode x = .fin a m e
def FV (x : UInt64) (v : Int) : Prop := Fin x ∧ val x = v
def Rep (A : Int) : Prop := ∃ t, t < infMag ∧ (A = (V t : Int) ∨ A = -(V t : Int))
/-- z is n over d, rounded -/
structure Rnd (z : UInt64) (n : Int) (d : Nat) : Prop where
  fin : Fin z
  lo : ∀ A, Rep A → A * d ≤ n → A ≤ val z
  hi : ∀ B, Rep B → n ≤ B * d → val z ≤ B
theorem rnd_of_right {r : UInt64} {neg : Bool} {W D : Nat} (h : Right r neg W D) (hD : 0 < D) (hb : W ≤ D * 2 ^ 2000) : Rnd r (sgn neg W) D := by
  obtain ⟨t, rfl, ht, hinf, hn⟩ := h
  have h1 : 2 * (D * 2 ^ 2000) < D * ((2 ^ 54 - 1) * 2 ^ 2045) := by
    rw [Nat.mul_left_comm]
    exact Nat.mul_lt_mul_of_pos_left (by decide +kernel) hD
  have hlt : t < infMag := by
    rcases Nat.lt_or_ge t infMag with h | h
    · exact h
    · have := hinf.mp (Nat.le_antisymm ht h)
      exact absurd (Nat.le_trans this (Nat.mul_le_mul_left 2 hb)) (Nat.not_le.mpr h1)
  have hn := fun t' => (hn hlt t').1
  obtain ⟨m, e, hd, hv⟩ := decode_pack neg hlt
  have hval : val (pack neg t) = sgn neg (V t) := val_pack neg hlt
  have key : ∀ t', (D * V t' ≤ W → V t' ≤ V t) ∧ (W ≤ D * V t' → V t ≤ V t') := by
    intro t'
    have h := hn t'
    unfold dist at h
    constructor
    · intro h2
      rcases Nat.lt_or_ge (V t) (V t') with h3 | h3
      · have h4 : D * V t < D * V t' := Nat.mul_lt_mul_of_pos_left h3 hD
        omega
      · exact h3
    · intro h2
      rcases Nat.lt_or_ge (V t') (V t) with h3 | h3
      · have h4 : D * V t' < D * V t := Nat.mul_lt_mul_of_pos_left h3 hD
        omega
      · exact h3
  refine ⟨⟨_, _, _, hd⟩, fun A hA hle => ?_, fun B hB hle => ?_⟩
  · rw [hval]
    obtain ⟨t', _, rfl | rfl⟩ := hA
    · cases neg
      · have hle' : ((V t' * D : Nat) : Int) ≤ (W : Nat) := by simpa [sgn] using hle
        have := (key t').1 (by rw [Nat.mul_comm]; exact Int.ofNat_le.mp hle')
        simpa [sgn] using Int.ofNat_le.mpr this
      · have hle' : ((V t' * D : Nat) : Int) ≤ -((W : Nat) : Int) := by simpa [sgn] using hle
        have e1 : V t' * D = 0 ∧ W = 0 := by omega
        have e2 : V t' = 0 := by rcases Nat.mul_eq_zero.mp e1.1 with h | h; exact h; omega
        have := (key t').2 (by omega)
        have e3 : V t = 0 := by omega
        simp [sgn, e2, e3]
    · cases neg
      · simp only [sgn, Bool.false_eq_true, if_false]; omega
      · have hle' : -((V t' * D : Nat) : Int) ≤ -((W : Nat) : Int) := by simpa [sgn, Int.neg_mul] using hle
        have := (key t').2 (by rw [Nat.mul_comm]; omega)
        simp only [sgn, if_true]; omega
  · rw [hval]
    obtain ⟨t', _, rfl | rfl⟩ := hB
    · cases neg
      · have hle' : ((W : Nat) : Int) ≤ ((V t' * D : Nat) : Int) := by simpa [sgn] using hle
        have := (key t').2 (by rw [Nat.mul_comm]; exact Int.ofNat_le.mp hle')
        simpa [sgn] using Int.ofNat_le.mpr this
      · simp only [sgn, if_true]; omega
    · cases neg
      · have hle' : ((W : Nat) : Int) ≤ -((V t' * D : Nat) : Int) := by simpa [sgn, Int.neg_mul] using hle
        have e1 : V t' * D = 0 ∧ W = 0 := by omega
        have e2 : V t' = 0 := by rcases Nat.mul_eq_zero.mp e1.1 with h | h; exact h; omega
        have := (key t').2 (by omega)
        have e3 : V t = 0 := by omega
        simp [sgn, e2, e3]
      · have hle' : -((W : Nat) : Int) ≤ -((V t' * D : Nat) : Int) := by simpa [sgn, Int.neg_mul] using hle
        have := (key t').1 (by rw [Nat.mul_comm]; omega)
        simp only [sgn, if_true]; omega
theorem Rnd.exact {z : UInt64} {A : Int} {d : Nat} (h : Rnd z (A * d) d) (hA : Rep A) : FV z A := ⟨h.fin, Int.le_antisymm (h.hi A hA (Int.le_refl _)) (h.lo A hA (Int.le_refl _))⟩
theorem rep_nat {L k : Nat} (hL : L < 2 ^ 53) (hk : 52 ≤ k) (hk' : k ≤ 1900) : Rep ((L * 2 ^ k : Nat) : Int) := by
  rcases Nat.eq_zero_or_pos L with rfl | hp
  · exact ⟨0, by decide +kernel, .inl (by rw [V_zero]; simp)⟩
  · have hl : L.log2 < 53 := (Nat.log2_lt (Nat.ne_of_gt hp)).mpr hL
    have h1 : 2 ^ L.log2 ≤ L := Nat.log2_self_le (Nat.ne_of_gt hp)
    have h2 : L < 2 ^ (L.log2 + 1) := Nat.lt_log2_self
    have e1 : 2 ^ L.log2 * 2 ^ (52 - L.log2) = 2 ^ 52 := by rw [← Nat.pow_add]; congr 1; omega
    have e2 : 2 ^ (L.log2 + 1) * 2 ^ (52 - L.log2) = 2 ^ 53 := by rw [← Nat.pow_add]; congr 1; omega
    have h3 : 2 ^ 52 ≤ L * 2 ^ (52 - L.log2) := by rw [← e1]; exact Nat.mul_le_mul_right _ h1
    have h4 : L * 2 ^ (52 - L.log2) < 2 ^ 53 := by rw [← e2]; exact Nat.mul_lt_mul_of_pos_right h2 (Nat.two_pow_pos _)
    refine ⟨(k - (52 - L.log2)) * 2 ^ 52 + L * 2 ^ (52 - L.log2), ?_, .inl ?_⟩
    · unfold infMag
      have : (k - (52 - L.log2)) * 2 ^ 52 ≤ 1900 * 2 ^ 52 := Nat.mul_le_mul_right _ (by omega)
      omega
    · rw [V_at (Nat.le_of_lt h4) (.inl h3)]
      congr 1
      rw [Nat.mul_assoc, ← Nat.pow_add]
      congr 2
      omega
theorem Rep.neg {A : Int} (h : Rep A) : Rep (-A) := by
  obtain ⟨t, ht, rfl | rfl⟩ := h
  · exact ⟨t, ht, .inr rfl⟩
  · exact ⟨t, ht, .inl (by omega)⟩
theorem val_pos {x : UInt64} {a : Bool} {m : Nat} {e : Int} (h : decode x = .fin a m e) (hv : 0 < val x) : a = false := by
  rw [val_eq h] at hv
  cases a
  · rfl
  · simp only [sgn, if_true] at hv; omega
theorem val_neg {x : UInt64} {a : Bool} {m : Nat} {e : Int} (h : decode x = .fin a m e) (hv : val x < 0) : a = true := by
  rw [val_eq h] at hv
  cases a
  · simp only [sgn, Bool.false_eq_true, if_false] at hv; omega
  · rfl
theorem zero_fin (b : Bool) : Fin (zero b) ∧ val (zero b) = 0 := by
  obtain ⟨m, e, hd, hv⟩ := decode_pack b (t := 0) (by decide +kernel)
  refine ⟨⟨_, _, _, hd⟩, ?_⟩
  have : val (pack b 0) = sgn b (V 0) := val_pack b (by decide +kernel)
  unfold zero
  rw [this, V_zero]
  cases b <;> rfl
theorem rnd_zero {z : UInt64} {d : Nat} (hf : Fin z) (hv : val z = 0) (hd : 0 < d) : Rnd z 0 d where
  fin := hf
  lo A _ h := by
    rw [hv]
    rcases Int.lt_or_le 0 A with h1 | h1
    · have : 0 < A * d := Int.mul_pos h1 (by omega)
      omega
    · exact h1
  hi B _ h := by
    rw [hv]
    rcases Int.lt_or_le B 0 with h1 | h1
    · have : B * d < 0 := Int.mul_neg_of_neg_of_pos h1 (by omega)
      omega
    · exact h1
theorem sgn_int (n : Int) : sgn (decide (n < 0)) n.natAbs = n := by
  unfold sgn
  by_cases h : n < 0
  · rw [decide_eq_true h]; simp only [if_true]; omega
  · rw [decide_eq_false h]; simp only [Bool.false_eq_true, if_false]; omega
theorem big_le {n : Nat} (h : n ≤ 2 ^ 1200) : n ≤ 1 * 2 ^ 2000 := by
  rw [Nat.one_mul]
  exact Nat.le_trans h (Nat.pow_le_pow_right (by decide) (by decide))
theorem add_rnd {x y : UInt64} {v u : Int} (hx : FV x v) (hy : FV y u) (hb : (v + u).natAbs ≤ 2 ^ 1200) : Rnd (add x y) (v + u) 1 := by
  obtain ⟨⟨a, m, e, dx⟩, rfl⟩ := hx
  obtain ⟨⟨b, k, f, dy⟩, rfl⟩ := hy
  have h := add_right dx dy
  by_cases hz : val x + val y = 0
  · rw [h.1 hz, hz]
    exact rnd_zero (zero_fin _).1 (zero_fin _).2 (by decide)
  · have := rnd_of_right (h.2 hz) (by decide) (big_le hb)
    rwa [sgn_int] at this
theorem sub_rnd {x y : UInt64} {v u : Int} (hx : FV x v) (hy : FV y u) (hb : (v - u).natAbs ≤ 2 ^ 1200) : Rnd (sub x y) (v - u) 1 := by
  obtain ⟨⟨a, m, e, dx⟩, rfl⟩ := hx
  obtain ⟨⟨b, k, f, dy⟩, rfl⟩ := hy
  have h := sub_right dx dy
  by_cases hz : val x - val y = 0
  · rw [h.1 hz, hz]
    exact rnd_zero (zero_fin _).1 (zero_fin _).2 (by decide)
  · have := rnd_of_right (h.2 hz) (by decide) (big_le hb)
    rwa [sgn_int] at this
theorem sgn_zero (b : Bool) : sgn b 0 = 0 := by cases b <;> rfl
theorem sgn_by {x y : UInt64} {a b : Bool} {m k : Nat} {e f : Int} {W : Nat} (dx : decode x = .fin a m e) (dy : decode y = .fin b k f) (hy : 0 < val y) (hW : val x = 0 → W = 0) : sgn (a != b) W = sgn (decide (val x < 0)) W := by
  have hb := val_pos dy hy
  subst hb
  rcases Int.lt_trichotomy (val x) 0 with h | h | h
  · have := val_neg dx h
    subst this
    rw [decide_eq_true h]; rfl
  · rw [hW h, sgn_zero, sgn_zero]
  · have := val_pos dx h
    subst this
    rw [decide_eq_false (by omega)]; rfl
theorem sgn_scale (n : Int) (K : Nat) : sgn (decide (n < 0)) (n.natAbs * K) = n * K := by
  rw [sgn_mul, sgn_int]
theorem div_rnd {x y : UInt64} {v u : Int} (hx : FV x v) (hy : FV y u) (hu : 0 < u) (hb : v.natAbs * 2 ^ 1074 ≤ u.natAbs * 2 ^ 2000) : Rnd (div x y) (v * (2 ^ 1074 : Nat)) u.natAbs := by
  obtain ⟨⟨a, m, e, dx⟩, rfl⟩ := hx
  obtain ⟨⟨b, k, f, dy⟩, rfl⟩ := hy
  have hk : k ≠ 0 := by
    rintro rfl
    rw [val_eq dy, Nat.zero_mul, sgn_zero] at hu
    omega
  have := rnd_of_right (div_right dx dy hk) (by omega) hb
  rwa [sgn_by dx dy hu (fun h => by rw [h, Int.natAbs_zero, Nat.zero_mul]), sgn_scale] at this
theorem mul_rnd {x y : UInt64} {v u : Int} (hx : FV x v) (hy : FV y u) (hu : 0 < u) (hb : v.natAbs * u.natAbs ≤ 2 ^ 1074 * 2 ^ 2000) : Rnd (mul x y) (v * u) (2 ^ 1074) := by
  obtain ⟨⟨a, m, e, dx⟩, rfl⟩ := hx
  obtain ⟨⟨b, k, f, dy⟩, rfl⟩ := hy
  have := rnd_of_right (mul_right dx dy) (Nat.two_pow_pos _) hb
  rw [sgn_by dx dy hu (fun h => by rw [h, Int.natAbs_zero, Nat.zero_mul]), sgn_scale] at this
  have e : ((val y).natAbs : Int) = val y := by omega
  rwa [e] at this
theorem ofInt_fv {L : Int} (h0 : 0 ≤ L) (h1 : L < 2 ^ 53) : FV (ofInt L) (L * (2 ^ 1074 : Nat)) := by
  have h2 : L.natAbs < 2 ^ 53 := by omega
  have hb : L.natAbs * 2 ^ 1074 ≤ 1 * 2 ^ 2000 := big_le (Nat.le_trans (Nat.mul_le_mul_right _ (Nat.le_of_lt h2)) (by rw [← Nat.pow_add]; exact Nat.pow_le_pow_right (by decide) (by decide)))
  have := rnd_of_right (ofInt_right L) (by decide) hb
  rw [sgn_scale] at this
  have hr : Rep (L * (2 ^ 1074 : Nat)) := by
    have := rep_nat (L := L.natAbs) (k := 1074) h2 (by decide) (by decide)
    have e : ((L.natAbs * 2 ^ 1074 : Nat) : Int) = L * (2 ^ 1074 : Nat) := by rw [Int.natCast_mul]; congr 1; omega
    rwa [e] at this
  exact Rnd.exact (by rw [show ((1 : Nat) : Int) = 1 from rfl, Int.mul_one]; exact this) hr
theorem cmp_fv {x y : UInt64} {v u : Int} (hx : FV x v) (hy : FV y u) : cmp x y = some (compare v u) := by
  obtain ⟨⟨a, m, e, dx⟩, rfl⟩ := hx
  obtain ⟨⟨b, k, f, dy⟩, rfl⟩ := hy
  exact cmp_right dx dy
end Mine
end

section
set_option exponentiation.threshold 3000
set_option maxRecDepth 10000
namespace Mine
open PySem PySem.Float64
/-- 2 ^ -40 -/
def T : Nat := 2 ^ 1034
theorem T_pos : 0 < T := Nat.two_pow_pos _
def cBig : UInt64 := 4742290407621132288
def cSix : UInt64 := 4618441417868443648
def cOne : UInt64 := 4607182418800017408
def cTwo : UInt64 := 4611686018427387904
def cFour : UInt64 := 4616189618054758400
def cHalf : UInt64 := 4602678819172646912
def cSx : UInt64 := 4595172819793696085
def cSp : UInt64 := 4595172819793696086
def cTh : UInt64 := 4599676419421066581
def c56 : UInt64 := 4605681218924227242
theorem fv_of {x : UInt64} {v : Int} (h : isFinite x = true) (hv : val x = v) : FV x v := by
  refine ⟨?_, hv⟩
  unfold isFinite at h
  unfold Fin
  split at h
  · exact ⟨_, _, _, by assumption⟩
  · cases h
theorem fBig : FV cBig ((1180591620717411303424 * T : Nat) * 1 : Int) := fv_of (by decide +kernel) (by decide +kernel)
theorem fSix : FV cSix ((6 * 1099511627776 * T : Nat) : Int) := fv_of (by decide +kernel) (by decide +kernel)
theorem fOne : FV cOne ((1099511627776 * T : Nat) : Int) := fv_of (by decide +kernel) (by decide +kernel)
theorem fTwo : FV cTwo ((2 * 1099511627776 * T : Nat) : Int) := fv_of (by decide +kernel) (by decide +kernel)
theorem fFour : FV cFour ((4 * 1099511627776 * T : Nat) : Int) := fv_of (by decide +kernel) (by decide +kernel)
theorem fHalf : FV cHalf ((549755813888 * T : Nat) : Int) := fv_of (by decide +kernel) (by decide +kernel)
theorem sum56 : add cHalf cTh = c56 := by decide +kernel
def SX : Int := val cSx
def SP : Int := val cSp
def C5 : Int := val c56
theorem fSx : FV cSx SX := fv_of (by decide +kernel) rfl
theorem fSp : FV cSp SP := fv_of (by decide +kernel) rfl
theorem f56 : FV c56 C5 := fv_of (by decide +kernel) rfl
theorem SX_lo : ((183251937962 * T : Nat) : Int) < SX := by decide +kernel
theorem SX_hi : 6 * SX ≤ ((1099511627776 * T : Nat) : Int) := by decide +kernel
theorem SP_hi : ((1099511627776 * T : Nat) : Int) ≤ 6 * SP := by decide +kernel
theorem SP_C5 : C5 ≤ ((1099511627776 * T : Nat) : Int) - SP := by decide +kernel
theorem C5_lo : ((916259689813 * T : Nat) : Int) < C5 := by decide +kernel
theorem rep_T {n : Nat} (h : n < 2 ^ 53) : Rep ((n * T : Nat) : Int) := rep_nat h (by decide) (by decide)
theorem mant {x : UInt64} {a : Bool} {m : Nat} {e : Int} (h : decode x = .fin a m e) : m < 2 ^ 53 ∧ (2 ^ 52 ≤ m ∨ e = -1074) ∧ e ≤ 971 := by
  unfold decode at h
  simp only at h
  split at h
  · split at h <;> cases h
  · split at h
    · cases h
      refine ⟨?_, .inr rfl, by decide⟩
      have : x.toNat % 2 ^ 52 < 2 ^ 52 := Nat.mod_lt _ (Nat.two_pow_pos _)
      omega
    · rename_i h1 h2
      cases h
      have h3 : x.toNat / 2 ^ 52 % 2048 ≠ 2047 := by simpa using h1
      have h4 : x.toNat / 2 ^ 52 % 2048 < 2048 := Nat.mod_lt _ (by decide)
      have : x.toNat % 2 ^ 52 < 2 ^ 52 := Nat.mod_lt _ (Nat.two_pow_pos _)
      refine ⟨by omega, .inl (by omega), by omega⟩
theorem rep_val {x : UInt64} {v : Int} (h : FV x v) : Rep v := by
  obtain ⟨⟨a, m, e, d⟩, rfl⟩ := h
  obtain ⟨h1, h2, h3⟩ := mant d
  have h4 := decode_ge d
  rw [val_eq d]
  have hV : V ((e + 1074).toNat * 2 ^ 52 + m) = m * 2 ^ (e + 1074).toNat := V_at (Nat.le_of_lt h1) (h2.imp id (fun q => by omega))
  have ht : (e + 1074).toNat * 2 ^ 52 + m < infMag := by
    unfold infMag
    have : (e + 1074).toNat ≤ 2045 := by omega
    have : (e + 1074).toNat * 2 ^ 52 ≤ 2045 * 2 ^ 52 := Nat.mul_le_mul_right _ this
    omega
  refine ⟨_, ht, ?_⟩
  rw [hV]
  cases a
  · exact .inl rfl
  · exact .inr rfl
theorem Rnd.one {z : UInt64} {n : Int} (h : Rnd z n 1) : Fin z ∧ (∀ A, Rep A → A ≤ n → A ≤ val z) ∧ ∀ B, Rep B → n ≤ B → val z ≤ B :=
  ⟨h.fin, fun A hA q => h.lo A hA (by rw [show ((1 : Nat) : Int) = 1 from rfl, Int.mul_one]; exact q), fun B hB q => h.hi B hB (by rw [show ((1 : Nat) : Int) = 1 from rfl, Int.mul_one]; exact q)⟩
theorem Rnd.exact1 {z : UInt64} {A : Int} (h : Rnd z A 1) (hA : Rep A) : FV z A := Rnd.exact (by rw [show ((1 : Nat) : Int) = 1 from rfl, Int.mul_one]; exact h) hA
theorem K1074 : (2 ^ 1074 : Nat) = 1099511627776 * T := by decide +kernel
theorem T_le : 2 ^ 100 * T ≤ 2 ^ 1200 := by decide +kernel
theorem small {n : Nat} {k : Nat} (h : n ≤ k * T) (hk : k ≤ 2 ^ 100) : n ≤ 2 ^ 1200 := Nat.le_trans h (Nat.le_trans (Nat.mul_le_mul_right _ hk) T_le)
/-- a level's float -/
theorem level_fv {L : Int} (h0 : 0 ≤ L) (h1 : L < 2 ^ 30) : FV (div (ofInt L) cBig) (L * 1024 * T) := by
  have hx := ofInt_fv h0 (by omega)
  have hr : Rep (L * 1024 * T) := by
    have := rep_T (n := L.toNat * 1024) (by omega)
    have e : ((L.toNat * 1024 * T : Nat) : Int) = L * 1024 * T := by rw [Int.natCast_mul, Int.natCast_mul, Int.toNat_of_nonneg h0]; rfl
    rwa [e] at this
  rw [K1074] at hx
  have hb : (L * ((1099511627776 * T : Nat) : Int)).natAbs * 2 ^ 1074 ≤ (((1180591620717411303424 * T : Nat) * 1 : Int)).natAbs * 2 ^ 2000 := by
    refine Nat.mul_le_mul ?_ (Nat.pow_le_pow_right (by decide) (by decide))
    rw [Int.natAbs_mul, Int.mul_one, Int.natAbs_natCast, Int.natAbs_natCast, ← Nat.mul_assoc]
    exact Nat.mul_le_mul_right _ (by omega)
  have h := div_rnd hx fBig (by have := T_pos; omega) hb
  rw [K1074] at h
  refine Rnd.exact (d := (((1180591620717411303424 * T : Nat) * 1 : Int)).natAbs) ?_ hr
  have e : L * ((1099511627776 * T : Nat) : Int) * ((1099511627776 * T : Nat) : Int) = L * 1024 * T * ((((1180591620717411303424 * T : Nat) * 1 : Int)).natAbs : Int) := by
    rw [Int.mul_one, Int.natAbs_natCast]
    simp only [Int.natCast_mul]
    generalize (T : Int) = t
    have : ((1099511627776 : Nat) : Int) * ((1099511627776 : Nat) : Int) = 1024 * ((1180591620717411303424 : Nat) : Int) := by decide
    calc L * (((1099511627776 : Nat) : Int) * t) * (((1099511627776 : Nat) : Int) * t) = L * (((1099511627776 : Nat) : Int) * ((1099511627776 : Nat) : Int)) * (t * t) := by ac_rfl
      _ = L * 1024 * t * (((1180591620717411303424 : Nat) : Int) * t) := by rw [this]; ac_rfl
  rwa [e] at h
/-- and back -/
theorem back_fv {x : UInt64} {L : Int} (hx : FV x (L * 1024 * T)) (h0 : 0 ≤ L) (h1 : L < 2 ^ 30) : FV (mul x cBig) (L * (2 ^ 1074 : Nat)) := by
  have hr : Rep (L * (2 ^ 1074 : Nat)) := by
    have := rep_nat (L := L.toNat) (k := 1074) (by omega) (by decide) (by decide)
    have e : ((L.toNat * 2 ^ 1074 : Nat) : Int) = L * (2 ^ 1074 : Nat) := by rw [Int.natCast_mul, Int.toNat_of_nonneg h0]
    rwa [e] at this
  have hb : (L * 1024 * T).natAbs * (((1180591620717411303424 * T : Nat) * 1 : Int)).natAbs ≤ 2 ^ 1074 * 2 ^ 2000 := by
    rw [Int.mul_one, Int.natAbs_natCast, Int.natAbs_mul, Int.natAbs_natCast]
    have h3 : (L * 1024).natAbs ≤ 2 ^ 40 := by omega
    refine Nat.le_trans (Nat.mul_le_mul (Nat.mul_le_mul_right _ h3) (Nat.le_refl _)) (by decide +kernel)
  have h := mul_rnd hx fBig (by have := T_pos; omega) hb
  refine Rnd.exact (d := 2 ^ 1074) ?_ hr
  have e : L * 1024 * T * ((1180591620717411303424 * T : Nat) * 1 : Int) = L * (2 ^ 1074 : Nat) * (2 ^ 1074 : Nat) := by
    rw [Int.mul_one, K1074]
    simp only [Int.natCast_mul]
    generalize (T : Int) = t
    have : ((1099511627776 : Nat) : Int) * ((1099511627776 : Nat) : Int) = 1024 * ((1180591620717411303424 : Nat) : Int) := by decide
    calc L * 1024 * t * (((1180591620717411303424 : Nat) : Int) * t) = L * (1024 * ((1180591620717411303424 : Nat) : Int)) * (t * t) := by ac_rfl
      _ = L * (((1099511627776 : Nat) : Int) * t) * (((1099511627776 : Nat) : Int) * t) := by rw [← this]; ac_rfl
  rwa [e] at h
theorem trunc_fv {x : UInt64} {L : Int} (hx : FV x (L * (2 ^ 1074 : Nat))) (h0 : 0 ≤ L) : ∃ a m e, decode x = .fin a m e ∧ truncOf a m e = L := by
  obtain ⟨⟨a, m, e, d⟩, hv⟩ := hx
  refine ⟨a, m, e, d, ?_⟩
  have he := decode_ge d
  rw [val_eq d, sgn_mul] at hv
  have hK : (0 : Int) < ((2 ^ 1074 : Nat) : Int) := Int.ofNat_lt.mpr (Nat.two_pow_pos _)
  have hE : (0 : Int) < ((2 ^ (e + 1074).toNat : Nat) : Int) := Int.ofNat_lt.mpr (Nat.two_pow_pos _)
  have floor_eq : floorOf a m e = L := by
    unfold floorOf
    split
    · rename_i h
      have e1 : (e + 1074).toNat = e.toNat + 1074 := by omega
      rw [e1, Nat.pow_add, Int.natCast_mul, ← Int.mul_assoc] at hv
      have := Int.eq_of_mul_eq_mul_right (Int.ne_of_gt hK) hv
      rw [← this]; simp
    · rename_i h
      have e1 : (1074 : Nat) = (e + 1074).toNat + (-e).toNat := by omega
      have e2 : ((2 ^ 1074 : Nat) : Int) = ((2 ^ (-e).toNat : Nat) : Int) * ((2 ^ (e + 1074).toNat : Nat) : Int) := by
        rw [← Int.natCast_mul, ← Nat.pow_add]
        congr 2; omega
      rw [e2, ← Int.mul_assoc] at hv
      have := Int.eq_of_mul_eq_mul_right (Int.ne_of_gt hE) hv
      rw [this]
      have hP : (0 : Int) < ((2 ^ (-e).toNat : Nat) : Int) := Int.ofNat_lt.mpr (Nat.two_pow_pos _)
      have e3 : ((2 : Int) ^ (-e).toNat) = ((2 ^ (-e).toNat : Nat) : Int) := by simp
      rw [e3]
      exact Int.mul_fdiv_cancel _ (Int.ne_of_gt hP)
  unfold truncOf
  split
  · rename_i ha
    have hz : L = 0 := by
      rw [ha] at hv
      simp only [sgn, if_true] at hv
      have h1 : -(m : Int) * ((2 ^ (e + 1074).toNat : Nat) : Int) ≤ 0 := by
        rw [Int.neg_mul]
        have : 0 ≤ (m : Int) * ((2 ^ (e + 1074).toNat : Nat) : Int) := Int.mul_nonneg (by omega) (Int.le_of_lt hE)
        omega
      have h2 : 0 ≤ L * ((2 ^ 1074 : Nat) : Int) := Int.mul_nonneg h0 (Int.le_of_lt hK)
      have h3 : L * ((2 ^ 1074 : Nat) : Int) = 0 := by omega
      rcases Int.mul_eq_zero.mp h3 with h | h
      · exact h
      · omega
    have hm : m = 0 := by
      rw [hz, Int.zero_mul] at hv
      rcases Int.mul_eq_zero.mp hv with h | h
      · rw [ha] at h; simp only [sgn, if_true] at h; omega
      · omega
    subst hm
    unfold ceilOf floorOf
    rw [sgn_zero, hz]
    split <;> simp
  · exact floor_eq
end Mine
end

section
set_option exponentiation.threshold 3000
set_option maxRecDepth 10000
namespace Mine
open PySem PySem.Float64
abbrev ONE : Int := ((1099511627776 * T : Nat) : Int)
theorem ONE_eq : ONE = 1099511627776 * (T : Int) := Int.natCast_mul _ _
/-- a quotient of two distances -/
structure Q01 (z : UInt64) (N D : Int) : Prop where
  fin : Fin z
  lo : 0 ≤ val z
  hi : val z ≤ ONE
  top : N = D → val z = ONE
  pos : 1 ≤ N → 1024 * T ≤ val z
theorem sub_lv {x y : UInt64} {R G : Int} (hx : FV x (R * 1024 * T)) (hy : FV y (G * 1024 * T)) (hr : 0 ≤ R ∧ R < 2 ^ 30) (hg : 0 ≤ G ∧ G < 2 ^ 30) : FV (sub x y) ((R - G) * 1024 * T) := by
  have e : R * 1024 * T - G * 1024 * T = (R - G) * 1024 * T := by rw [← Int.sub_mul, ← Int.sub_mul]
  have hb : (R * 1024 * T - G * 1024 * T).natAbs ≤ 2 ^ 1200 := by
    rw [e, Int.natAbs_mul, Int.natAbs_natCast]
    exact small (k := 2 ^ 40) (Nat.mul_le_mul_right _ (by omega)) (by decide)
  have h := sub_rnd hx hy hb
  rw [e] at h
  refine Rnd.exact1 h ?_
  have key : Rep (((R - G).natAbs * 1024 * T : Nat) : Int) := rep_T (n := (R - G).natAbs * 1024) (by omega)
  rcases Int.le_total 0 (R - G) with hs | hs
  · have e2 : (((R - G).natAbs * 1024 * T : Nat) : Int) = (R - G) * 1024 * T := by rw [Int.natCast_mul, Int.natCast_mul, Int.natAbs_of_nonneg hs]; rfl
    rwa [e2] at key
  · have e2 : -(((R - G).natAbs * 1024 * T : Nat) : Int) = (R - G) * 1024 * T := by
      rw [Int.natCast_mul, Int.natCast_mul, Int.ofNat_natAbs_of_nonpos hs, ← Int.neg_mul, ← Int.neg_mul, Int.neg_neg]; rfl
    have := key.neg
    rwa [e2] at this
theorem ratio_q {x y : UInt64} {N D : Int} (hx : FV x (N * 1024 * T)) (hy : FV y (D * 1024 * T)) (h0 : 0 ≤ N) (h1 : N ≤ D) (h2 : 0 < D) (h3 : D ≤ 2 ^ 30) : Q01 (div x y) N D := by
  have hT := T_pos
  have hO := ONE_eq
  have hu : 0 < D * 1024 * T := by
    have : 0 < D * 1024 := by omega
    exact Int.mul_pos this (by omega)
  have ea : (D * 1024 * T).natAbs = D.toNat * 1024 * T := by
    rw [Int.natAbs_mul, Int.natAbs_natCast]; congr 1; omega
  have hb : (N * 1024 * T).natAbs * 2 ^ 1074 ≤ (D * 1024 * T).natAbs * 2 ^ 2000 := by
    refine Nat.mul_le_mul ?_ (Nat.pow_le_pow_right (by decide) (by decide))
    rw [Int.natAbs_mul, Int.natAbs_mul (D * 1024)]
    exact Nat.mul_le_mul_right _ (show (N * 1024).natAbs ≤ (D * 1024).natAbs by omega)
  have h := div_rnd hx hy hu hb
  rw [ea, K1074] at h
  have eD : ((D.toNat * 1024 * T : Nat) : Int) = D * (1024 * T) := by rw [Int.natCast_mul, Int.natCast_mul, Int.toNat_of_nonneg (by omega)]; rw [Int.mul_assoc]; rfl
  have eN : N * 1024 * T = N * (1024 * T) := Int.mul_assoc _ _ _
  have hTT : (0 : Int) ≤ ((1024 * T : Nat) : Int) * ONE := Int.mul_nonneg (by omega) (by omega)
  have key : ∀ a b : Int, a ≤ b → a * (1024 * T) * ONE ≤ ONE * (b * (1024 * T)) := by
    intro a b hab
    have e1 : a * (1024 * T) * ONE = a * ((1024 * T) * ONE) := Int.mul_assoc _ _ _
    have e2 : ONE * (b * (1024 * T)) = b * ((1024 * T) * ONE) := by ac_rfl
    rw [e1, e2]
    exact Int.mul_le_mul_of_nonneg_right hab hTT
  have rep1 : Rep ONE := rep_T (by decide)
  refine ⟨h.fin, h.lo 0 (rep_T (n := 0) (by decide) |> fun h => by simpa using h) ?_, h.hi ONE rep1 ?_, fun e => ?_, fun hN => ?_⟩
  · rw [Int.zero_mul, eN]
    exact Int.mul_nonneg (Int.mul_nonneg h0 (by omega)) (by omega)
  · rw [eD, eN]; exact key N D h1
  · refine Int.le_antisymm (h.hi ONE rep1 ?_) (h.lo ONE rep1 ?_)
    · rw [eD, eN]; exact key N D h1
    · rw [eD, eN, e]
      exact Int.le_of_eq (by ac_rfl)
  · refine h.lo _ (rep_T (n := 1024) (by decide) |> fun h => by simpa using h) ?_
    rw [eD, eN]
    have e1 : (1024 * T : Int) * (D * (1024 * T)) = D * ((1024 * T) * (1024 * T)) := by ac_rfl
    have e2 : N * (1024 * T) * ONE = N * 1073741824 * ((1024 * T) * (1024 * T)) := by
      have : ONE = 1073741824 * (1024 * T) := by omega
      rw [this]; ac_rfl
    rw [e1, e2]
    exact Int.mul_le_mul_of_nonneg_right (by omega) (Int.mul_nonneg (by omega) (by omega))
theorem sixth_r {x : UInt64} {v : Int} (hx : FV x v) (hb : v.natAbs ≤ 2 ^ 50 * T) : Fin (div x cSix) ∧ (∀ A, Rep A → 6 * A ≤ v → A ≤ val (div x cSix)) ∧ ∀ B, Rep B → v ≤ 6 * B → val (div x cSix) ≤ B := by
  have hT := T_pos
  have hO := ONE_eq
  have hb' : v.natAbs * 2 ^ 1074 ≤ ((6 * 1099511627776 * T : Nat) : Int).natAbs * 2 ^ 2000 := by
    rw [Int.natAbs_natCast]
    refine Nat.le_trans (Nat.mul_le_mul_right _ hb) ?_
    have : 2 ^ 50 * T * 2 ^ 1074 = T * (2 ^ 50 * 2 ^ 1074) := by ac_rfl
    rw [this]
    have : 6 * 1099511627776 * T * 2 ^ 2000 = T * (6 * 1099511627776 * 2 ^ 2000) := by ac_rfl
    rw [this]
    exact Nat.mul_le_mul_left _ (by decide +kernel)
  have h := div_rnd hx fSix (by omega) hb'
  rw [Int.natAbs_natCast, K1074] at h
  have eD : ((6 * 1099511627776 * T : Nat) : Int) = 6 * ONE := by omega
  refine ⟨h.fin, fun A hA q => h.lo A hA ?_, fun B hB q => h.hi B hB ?_⟩
  · rw [eD, show A * (6 * ONE) = 6 * A * ONE by ac_rfl]
    exact Int.mul_le_mul_of_nonneg_right q (by omega)
  · rw [eD, show B * (6 * ONE) = 6 * B * ONE by ac_rfl]
    exact Int.mul_le_mul_of_nonneg_right q (by omega)
theorem dOne : decode cOne = .fin false (2 ^ 52) (-52) := by kernel_rfl
theorem isZero_fv {x : UInt64} {v : Int} (hx : FV x v) : isZero x = decide (v = 0) := by
  obtain ⟨⟨a, m, e, d⟩, rfl⟩ := hx
  unfold isZero
  rw [d, val_eq d]
  have hE := Nat.two_pow_pos (e + 1074).toNat
  cases m with
  | zero => rw [Nat.zero_mul, sgn_zero]; rfl
  | succ m =>
    have h : 0 < (m + 1) * 2 ^ (e + 1074).toNat := Nat.mul_pos (by omega) hE
    have : ¬ sgn a ((m + 1) * 2 ^ (e + 1074).toNat) = 0 := by
      unfold sgn; split <;> omega
    simp [this]
theorem fmod_one {x : UInt64} {v : Int} (hx : FV x v) (hb : v.natAbs < 1099511627776 * T) : FV (fmod x cOne) v := by
  have hr := rep_val hx
  obtain ⟨⟨a, m, e, d⟩, rfl⟩ := hx
  have he := decode_ge d
  have hv := val_natAbs d
  have hone : (2 ^ 52) * 2 ^ ((-52 : Int) + 1074).toNat = 1099511627776 * T := by decide +kernel
  have hf : fmod x cOne = ofBin a ((m * 2 ^ (e - min e (-52)).toNat) % (2 ^ 52 * 2 ^ ((-52 : Int) - min e (-52)).toNat)) (min e (-52)) := by
    unfold fmod
    rw [d, dOne]
    simp only [align, sgn]
    rw [if_neg (by decide)]
    simp only [Bool.false_eq_true, if_false, Int.toNat_natCast]
  have e1 : m * 2 ^ (e + 1074).toNat = m * 2 ^ (e - min e (-52)).toNat * 2 ^ (min e (-52) + 1074).toNat := by
    rw [Nat.mul_assoc, ← Nat.pow_add]; congr 2; omega
  have e2 : (2 ^ 52) * 2 ^ ((-52 : Int) + 1074).toNat = 2 ^ 52 * 2 ^ ((-52 : Int) - min e (-52)).toNat * 2 ^ (min e (-52) + 1074).toNat := by
    have e3 : ((-52 : Int) + 1074).toNat = ((-52 : Int) - min e (-52)).toNat + (min e (-52) + 1074).toNat := by omega
    rw [e3, Nat.mul_assoc, ← Nat.pow_add (2 : Nat) ((-52 : Int) - min e (-52)).toNat]
  have hlt : m * 2 ^ (e - min e (-52)).toNat < 2 ^ 52 * 2 ^ ((-52 : Int) - min e (-52)).toNat := by
    rw [← hone, hv, e1, e2] at hb
    exact Nat.lt_of_mul_lt_mul_right hb
  rw [Nat.mod_eq_of_lt hlt] at hf
  have hsh := shift_one (m * 2 ^ (e - min e (-52)).toNat) (min e (-52)) 1074 (by omega)
  have hR : Right (fmod x cOne) a (m * 2 ^ (e - min e (-52)).toNat * 2 ^ (min e (-52) + 1074).toNat) 1 := by
    rw [hf]
    unfold ofBin
    exact ofFrac_right (shift_pos _ _ _ (by decide)) (by rw [Nat.mul_one]; exact hsh) (by decide)
  have hbig : m * 2 ^ (e - min e (-52)).toNat * 2 ^ (min e (-52) + 1074).toNat ≤ 1 * 2 ^ 2000 := by
    rw [← e1, ← hv]
    exact big_le (small (k := 1099511627776) (Nat.le_of_lt hb) (by decide))
  have := rnd_of_right hR (by decide) hbig
  rw [← e1, ← val_eq d] at this
  exact Rnd.exact1 this hr
theorem fZero : FV (zero false) 0 := ⟨(zero_fin false).1, (zero_fin false).2⟩
theorem lt_fv {x y : UInt64} {v u : Int} (hx : FV x v) (hy : FV y u) : lt x y = decide (v < u) := by
  unfold lt
  rw [cmp_fv hx hy]
  by_cases h : v < u
  · rw [Int.compare_eq_lt.mpr h, decide_eq_true h]; rfl
  · rw [decide_eq_false h]
    rcases Int.lt_or_eq_of_le (Int.not_lt.mp h) with h | h
    · rw [Int.compare_eq_gt.mpr h]; rfl
    · rw [h]; simp
theorem copysign_zero : FV (copysign (zero false) cOne) 0 := fv_of (by decide +kernel) (by decide +kernel)
/-- x % 1.0 -/
theorem mod_one {x : UInt64} {v : Int} (hx : FV x v) (hb : v.natAbs < 1099511627776 * T) : (0 ≤ v → FV (divmod x cOne).2 v) ∧ (v < 0 → Rnd (divmod x cOne).2 (v + ONE) 1) := by
  have hm := fmod_one hx hb
  have hz := isZero_fv hm
  have h1 : lt cOne (zero false) = false := by decide +kernel
  have h2 := lt_fv hm fZero
  have hT := T_pos
  have hO := ONE_eq
  constructor
  · intro h
    by_cases h0 : v = 0
    · subst h0
      have : (divmod x cOne).2 = copysign (zero false) cOne := by
        unfold divmod
        simp only [hz, decide_true, if_true]
      rw [this]; exact copysign_zero
    · have : (divmod x cOne).2 = fmod x cOne := by
        unfold divmod
        simp only [hz, h1, h2, decide_eq_false h0, decide_eq_false (Int.not_lt.mpr h), Bool.false_eq_true, if_false, bne_self_eq_false]
      rw [this]; exact hm
  · intro h
    have : (divmod x cOne).2 = add (fmod x cOne) cOne := by
      unfold divmod
      have h0 : v ≠ 0 := by omega
      simp only [hz, h1, h2, decide_eq_false h0, decide_eq_true h, Bool.false_eq_true, if_false]
      rfl
    rw [this]
    exact add_rnd hm fOne (small (k := 2 * 1099511627776) (by omega) (by decide))
end Mine
end

section
set_option exponentiation.threshold 3000
set_option maxRecDepth 10000
namespace Mine
open PySem PySem.Float64
def HF : Int := ((549755813888 * T : Nat) : Int)
theorem HF_eq : HF = 549755813888 * (T : Int) := Int.natCast_mul _ _
theorem SX_lo' : 183251937962 * (T : Int) < SX := by have := SX_lo; rwa [Int.natCast_mul] at this
theorem C5_lo' : 916259689813 * (T : Int) < C5 := by have := C5_lo; rwa [Int.natCast_mul] at this
theorem SX_hi' : 6 * SX ≤ ONE := SX_hi
theorem SP_hi' : ONE ≤ 6 * SP := SP_hi
theorem SP_C5' : C5 ≤ ONE - SP := SP_C5
theorem rep_Z {n : Nat} (h : n < 2 ^ 53) : Rep ((n : Int) * T) := by have := rep_T h; rwa [Int.natCast_mul] at this
theorem rep0 : Rep 0 := by have := rep_Z (n := 0) (by decide); simpa using this
theorem repONE : Rep ONE := rep_T (by decide)
def hueF (h : UInt64) : UInt64 := (divmod (div h cSix) cOne).2
theorem hue_mid {h : UInt64} {v a b : Int} (hv : FV h v) (hb : v.natAbs ≤ 2 ^ 50 * T) (ra : Rep a) (rb : Rep b) (h1 : 6 * a ≤ v) (h2 : v ≤ 6 * b) (h3 : 0 ≤ a) (h4 : b < ONE) : ∃ u, FV (hueF h) u ∧ a ≤ u ∧ u ≤ b := by
  obtain ⟨f, lo, hi⟩ := sixth_r hv hb
  have l := lo a ra h1
  have u := hi b rb h2
  have hO := ONE_eq
  have := (mod_one (x := div h cSix) ⟨f, rfl⟩ (by omega)).1 (by omega)
  exact ⟨_, this, l, u⟩
theorem hue_neg {h : UInt64} {v : Int} (hv : FV h v) (h1 : -ONE ≤ v) (h2 : v ≤ 0) : ∃ u, FV (hueF h) u ∧ (u = 0 ∨ C5 ≤ u) := by
  have hO := ONE_eq
  have hT := T_pos
  obtain ⟨f, lo, hi⟩ := sixth_r hv (by omega)
  have l := lo (-SP) (rep_val fSp).neg (by have := SP_hi'; omega)
  have u := hi 0 rep0 (by omega)
  have hc := SP_C5'
  have hc5 := C5_lo'
  have m := mod_one (x := div h cSix) ⟨f, rfl⟩ (by omega)
  by_cases h0 : 0 ≤ val (div h cSix)
  · have e : val (div h cSix) = 0 := by omega
    have := m.1 h0
    rw [e] at this
    exact ⟨0, this, .inl rfl⟩
  · obtain ⟨f2, lo2, _⟩ := (m.2 (by omega)).one
    exact ⟨_, ⟨f2, rfl⟩, .inr (lo2 C5 (rep_val f56) (by omega))⟩
theorem hue_red {bc gc : UInt64} {Nb Ng D : Int} (qb : Q01 bc Nb D) (qg : Q01 gc Ng D) (hm : Ng = D ∨ Nb = D) : ∃ u, FV (hueF (sub bc gc)) u ∧ (1 ≤ Nb → 1 ≤ Ng → u < SX ∨ C5 ≤ u) := by
  have hO := ONE_eq
  have hT := T_pos
  have hs := SX_lo'
  have hl := qb.lo
  have hh := qb.hi
  have gl := qg.lo
  have gh := qg.hi
  have r := (sub_rnd (x := bc) (y := gc) ⟨qb.fin, rfl⟩ ⟨qg.fin, rfl⟩ (small (k := 2 * 1099511627776) (by omega) (by decide))).one
  obtain ⟨f, lo, hi⟩ := r
  rcases hm with e | e
  · have e1 := qg.top e
    have l := lo (-ONE) repONE.neg (by omega)
    have u := hi 0 rep0 (by omega)
    obtain ⟨u, fu, hu⟩ := hue_neg ⟨f, rfl⟩ l u
    refine ⟨u, fu, fun _ _ => ?_⟩
    rcases hu with h | h
    · left; omega
    · exact .inr h
  · have e1 := qb.top e
    have l := lo 0 rep0 (by omega)
    by_cases hp : 1 ≤ Ng
    · have g1 := qg.pos hp
      have u := hi (1099511626752 * T) (rep_Z (n := 1099511626752) (by decide)) (by omega)
      obtain ⟨u, fu, hu⟩ := hue_mid (a := 0) (b := 183251937962 * T) ⟨f, rfl⟩ (by omega) rep0 (rep_Z (n := 183251937962) (by decide)) (by omega) (by omega) (by omega) (by omega)
      exact ⟨u, fu, fun _ _ => .inl (by omega)⟩
    · have u := hi ONE repONE (by omega)
      obtain ⟨u, fu, hu⟩ := hue_mid (a := 0) (b := 274877906944 * T) ⟨f, rfl⟩ (by omega) rep0 (rep_Z (n := 274877906944) (by decide)) (by omega) (by omega) (by omega) (by omega)
      exact ⟨u, fu, fun _ h => absurd h hp⟩
theorem hue_green {rc bc : UInt64} {Nr Nb D : Int} (qr : Q01 rc Nr D) (qb : Q01 bc Nb D) (hm : Nr = D ∨ Nb = D) : ∃ u, FV (hueF (sub (add cTwo rc) bc)) u ∧ (1 ≤ Nr → 1 ≤ Nb → SX ≤ u ∧ u < HF) := by
  have hO := ONE_eq
  have hT := T_pos
  have hF := HF_eq
  have hs := SX_hi'
  have e2 : ((2 * 1099511627776 * T : Nat) : Int) = 2 * ONE := by omega
  have rl := qr.lo
  have rh := qr.hi
  have bl := qb.lo
  have bh := qb.hi
  have r1 := (add_rnd fTwo (y := rc) ⟨qr.fin, rfl⟩ (small (k := 4 * 1099511627776) (by omega) (by decide))).one
  rw [e2] at r1
  obtain ⟨f1, lo1, hi1⟩ := r1
  have l1 := lo1 (2199023255552 * T) (rep_Z (n := 2199023255552) (by decide)) (by omega)
  have u1 := hi1 (3298534883328 * T) (rep_Z (n := 3298534883328) (by decide)) (by omega)
  have r2 := (sub_rnd (x := add cTwo rc) (y := bc) ⟨f1, rfl⟩ ⟨qb.fin, rfl⟩ (small (k := 8 * 1099511627776) (by omega) (by decide))).one
  obtain ⟨f2, lo2, hi2⟩ := r2
  by_cases hp : 1 ≤ Nr ∧ 1 ≤ Nb
  · have pr := qr.pos hp.1
    have pb := qb.pos hp.2
    have fin : ∃ a, Rep a ∧ SX ≤ a ∧ 6 * a ≤ val (sub (add cTwo rc) bc) ∧ val (sub (add cTwo rc) bc) ≤ 6 * (549755813887 * T) := by
      rcases hm with e | e
      · have e1 := qr.top e
        have u1' := hi1 (3298534883328 * T) (rep_Z (n := 3298534883328) (by decide)) (by omega)
        have l1' := lo1 (3298534883328 * T) (rep_Z (n := 3298534883328) (by decide)) (by omega)
        have l := lo2 (2199023255552 * T) (rep_Z (n := 2199023255552) (by decide)) (by omega)
        have u := hi2 (3298534882304 * T) (rep_Z (n := 3298534882304) (by decide)) (by omega)
        exact ⟨_, rep_val fSx, Int.le_refl _, by omega, by omega⟩
      · have e1 := qb.top e
        have l1' := lo1 (2199023256576 * T) (rep_Z (n := 2199023256576) (by decide)) (by omega)
        have l := lo2 (1099511628800 * T) (rep_Z (n := 1099511628800) (by decide)) (by omega)
        have u := hi2 (2199023255552 * T) (rep_Z (n := 2199023255552) (by decide)) (by omega)
        exact ⟨_, rep_val fSx, Int.le_refl _, by omega, by omega⟩
    obtain ⟨a, ra, ha, h1, h2⟩ := fin
    have hsx := SX_lo'
    obtain ⟨u, fu, hu⟩ := hue_mid (a := a) (b := 549755813887 * T) ⟨f2, rfl⟩ (by omega) ra (rep_Z (n := 549755813887) (by decide)) h1 h2 (by omega) (by omega)
    exact ⟨u, fu, fun _ _ => ⟨by omega, by omega⟩⟩
  · have l := lo2 (1099511627776 * T) (rep_Z (n := 1099511627776) (by decide)) (by omega)
    have u := hi2 (3298534883328 * T) (rep_Z (n := 3298534883328) (by decide)) (by omega)
    obtain ⟨u, fu, hu⟩ := hue_mid (a := 0) (b := 549755813888 * T) ⟨f2, rfl⟩ (by omega) rep0 (rep_Z (n := 549755813888) (by decide)) (by omega) (by omega) (by omega) (by omega)
    exact ⟨u, fu, fun h h' => absurd ⟨h, h'⟩ hp⟩
theorem hue_blue {gc rc : UInt64} {Ng Nr D : Int} (qg : Q01 gc Ng D) (qr : Q01 rc Nr D) (hm : Ng = D ∨ Nr = D) : ∃ u, FV (hueF (sub (add cFour gc) rc)) u ∧ (1 ≤ Ng → 1 ≤ Nr → HF ≤ u ∧ u < C5) := by
  have hO := ONE_eq
  have hT := T_pos
  have hF := HF_eq
  have hc := C5_lo'
  have e2 : ((4 * 1099511627776 * T : Nat) : Int) = 4 * ONE := by omega
  have rl := qr.lo
  have rh := qr.hi
  have gl := qg.lo
  have gh := qg.hi
  have r1 := (add_rnd fFour (y := gc) ⟨qg.fin, rfl⟩ (small (k := 8 * 1099511627776) (by omega) (by decide))).one
  rw [e2] at r1
  obtain ⟨f1, lo1, hi1⟩ := r1
  have l1 := lo1 (4398046511104 * T) (rep_Z (n := 4398046511104) (by decide)) (by omega)
  have u1 := hi1 (5497558138880 * T) (rep_Z (n := 5497558138880) (by decide)) (by omega)
  have r2 := (sub_rnd (x := add cFour gc) (y := rc) ⟨f1, rfl⟩ ⟨qr.fin, rfl⟩ (small (k := 8 * 1099511627776) (by omega) (by decide))).one
  obtain ⟨f2, lo2, hi2⟩ := r2
  by_cases hp : 1 ≤ Ng ∧ 1 ≤ Nr
  · have pr := qr.pos hp.2
    have pg := qg.pos hp.1
    have fin : 6 * (549755813888 * T) ≤ val (sub (add cFour gc) rc) ∧ val (sub (add cFour gc) rc) ≤ 6 * (916259689813 * T) := by
      rcases hm with e | e
      · have e1 := qg.top e
        have l1' := lo1 (5497558138880 * T) (rep_Z (n := 5497558138880) (by decide)) (by omega)
        have l := lo2 (4398046511104 * T) (rep_Z (n := 4398046511104) (by decide)) (by omega)
        have u := hi2 (5497558137856 * T) (rep_Z (n := 5497558137856) (by decide)) (by omega)
        omega
      · have e1 := qr.top e
        have l := lo2 (3298534883328 * T) (rep_Z (n := 3298534883328) (by decide)) (by omega)
        have u := hi2 (4398046511104 * T) (rep_Z (n := 4398046511104) (by decide)) (by omega)
        omega
    obtain ⟨u, fu, hu⟩ := hue_mid (a := 549755813888 * T) (b := 916259689813 * T) ⟨f2, rfl⟩ (by omega) (rep_Z (n := 549755813888) (by decide)) (rep_Z (n := 916259689813) (by decide)) fin.1 fin.2 (by omega) (by omega)
    exact ⟨u, fu, fun _ _ => ⟨by omega, by omega⟩⟩
  · have l := lo2 (3298534883328 * T) (rep_Z (n := 3298534883328) (by decide)) (by omega)
    have u := hi2 (5497558138880 * T) (rep_Z (n := 5497558138880) (by decide)) (by omega)
    obtain ⟨u, fu, hu⟩ := hue_mid (a := 0) (b := 962072674304 * T) ⟨f2, rfl⟩ (by omega) rep0 (rep_Z (n := 962072674304) (by decide)) (by omega) (by omega) (by omega) (by omega)
    exact ⟨u, fu, fun h h' => absurd ⟨h, h'⟩ hp⟩
end Mine
end

section
open PySem PySem.W PyProof.Rows PySem.Flt
set_option maxRecDepth 100000
namespace Mine
theorem cmp_lt {x y : UInt64} {v u : Int} (hx : FV x v) (hy : FV y u) : (Float64.cmp x y == some .lt) = decide (v < u) := by
  rw [cmp_fv hx hy]
  by_cases h : v < u
  · rw [Int.compare_eq_lt.mpr h, decide_eq_true h]; rfl
  · rw [decide_eq_false h]
    rcases Int.lt_or_eq_of_le (Int.not_lt.mp h) with h | h
    · rw [Int.compare_eq_gt.mpr h]; rfl
    · rw [h]; simp
theorem cmp_eq {x y : UInt64} {v u : Int} (hx : FV x v) (hy : FV y u) : (Float64.cmp x y == some .eq) = decide (v = u) := by
  rw [cmp_fv hx hy]
  rcases Int.lt_trichotomy v u with h | h | h
  · rw [Int.compare_eq_lt.mpr h, decide_eq_false (by omega)]; rfl
  · rw [h]; simp
  · rw [Int.compare_eq_gt.mpr h, decide_eq_false (by omega)]; rfl
/-- the greatest, the least -/
structure IsMax (M a b c : Int) : Prop where
  some : M = a ∨ M = b ∨ M = c
  a : a ≤ M
  b : b ≤ M
  c : c ≤ M
structure IsMin (M a b c : Int) : Prop where
  some : M = a ∨ M = b ∨ M = c
  a : M ≤ a
  b : M ≤ b
  c : M ≤ c
section
variable {prog : Program} {w : World} {A : Around} {E : Value → Shared → Prop} {s : Shared} {Q : Value → Shared → Prop} {h₀ : Heap} {L : Addr} {m : Str → Option Value} {news : Led} {x y z : UInt64} {t1 t2 t3 : Tok} {a b c : Int}
theorem max3 (hh : A.handled = none) (F : Fr h₀ L s.heap m) (N : News h₀ L s.heap news) (hx : FV x a) (hy : FV y b) (hz : FV z c)
    (h : ∀ h' tk u t M, FV u M → IsMax M a b c → Fr h₀ L h' m → News h₀ L h' news → Q (.float u t) { s with heap := h', toks := tk }) : wpAny (model prog w) A (call (.builtin "max") [.float x t1, .float y t2, .float z t3]) Q E s := by
  have hT : (s.heap.push { cls := .type "tuple", data := .seq #[.float x t1, .float y t2, .float z t3] }).IsTuple s.heap.objs.size #[.float x t1, .float y t2, .float z t3] := ⟨_, Heap.get?_push_size _ rfl, rfl, 0, rfl⟩
  refine call_max_three (wpAny_pyIter_tuple hT ?_)
  have hsz : (s.heap.push { cls := .type "tuple", data := .seq #[.float x t1, .float y t2, .float z t3] }).objs.size = s.heap.objs.size + 1 := Heap.size_push ..
  refine ⟨_, [_, s.heap.objs.size], [_], _, _, _, _, rfl, Walks.tuple (A := A.in1) hh _ s.heap.objs.size (by rw [hsz]; exact Nat.ne_of_lt (Nat.lt_succ_self _)) #[.float x t1, .float y t2, .float z t3],
    ⟨⟨_, Heap.get?_push_size _ rfl, rfl, rfl⟩, hT.push _⟩, fun d hd => ?_, by simp, cmpOf_gt #[.float x t1, .float y t2, .float z t3] (by simp [NumV.float]), fun v h' tk hP hk => ?_⟩
  · show d < ((s.heap.push _).push _).objs.size
    rw [Heap.size_push, hsz]
    rcases List.mem_cons.mp hd with rfl | hd
    · rw [hsz]; exact Nat.lt_succ_self _
    · rcases List.mem_cons.mp hd with rfl | hd
      · exact Nat.lt_succ_of_lt (Nat.lt_succ_self _)
      · cases hd
  · have hold : ∀ d o, s.heap.get? d = some o → h'.get? d = some o := fun d o e => by
      refine hk d o (fun hm => ?_) (Heap.get?_push_of_some _ (Heap.get?_push_of_some _ e))
      rcases List.mem_cons.mp hm with e1 | hm
      · have := Heap.lt_size e; rw [e1, hsz] at this; exact Nat.lt_irrefl _ (Nat.lt_of_succ_lt this)
      · cases hm
    have F' := F.grownK hold
    have N' := N.grown hold
    have e1 := cmp_lt hx hy
    have e2 := cmp_lt hx hz
    have e3 := cmp_lt hy hz
    have hb : v = if a < b then (if b < c then Value.float z t3 else Value.float y t2) else (if a < c then Value.float z t3 else Value.float x t1) := by
      have hP' : (#[.float x t1, .float y t2, .float z t3] : Array Value)[argBest (fun i j => ltV ((#[.float x t1, .float y t2, .float z t3] : Array Value).getD j .none) ((#[.float x t1, .float y t2, .float z t3] : Array Value).getD i .none)) 2]? = some v := hP
      by_cases h1 : a < b <;> by_cases h2 : b < c <;> by_cases h3 : a < c <;> simp [argBest, ltV, e1, e2, e3, h1, h2, h3] at hP' <;> simp [h1, h2, h3, hP']
    rw [hb]
    by_cases h1 : a < b
    · rw [if_pos h1]
      by_cases h2 : b < c
      · rw [if_pos h2]; exact h h' tk z t3 c hz ⟨.inr (.inr rfl), by omega, by omega, by omega⟩ F' N'
      · rw [if_neg h2]; exact h h' tk y t2 b hy ⟨.inr (.inl rfl), by omega, by omega, by omega⟩ F' N'
    · rw [if_neg h1]
      by_cases h2 : a < c
      · rw [if_pos h2]; exact h h' tk z t3 c hz ⟨.inr (.inr rfl), by omega, by omega, by omega⟩ F' N'
      · rw [if_neg h2]; exact h h' tk x t1 a hx ⟨.inl rfl, by omega, by omega, by omega⟩ F' N'
theorem min3 (hh : A.handled = none) (F : Fr h₀ L s.heap m) (N : News h₀ L s.heap news) (hx : FV x a) (hy : FV y b) (hz : FV z c)
    (h : ∀ h' tk u t M, FV u M → IsMin M a b c → Fr h₀ L h' m → News h₀ L h' news → Q (.float u t) { s with heap := h', toks := tk }) : wpAny (model prog w) A (call (.builtin "min") [.float x t1, .float y t2, .float z t3]) Q E s := by
  have hT : (s.heap.push { cls := .type "tuple", data := .seq #[.float x t1, .float y t2, .float z t3] }).IsTuple s.heap.objs.size #[.float x t1, .float y t2, .float z t3] := ⟨_, Heap.get?_push_size _ rfl, rfl, 0, rfl⟩
  refine call_min_three (wpAny_pyIter_tuple hT ?_)
  have hsz : (s.heap.push { cls := .type "tuple", data := .seq #[.float x t1, .float y t2, .float z t3] }).objs.size = s.heap.objs.size + 1 := Heap.size_push ..
  refine ⟨_, [_, s.heap.objs.size], [_], _, _, _, _, rfl, Walks.tuple (A := A.in1) hh _ s.heap.objs.size (by rw [hsz]; exact Nat.ne_of_lt (Nat.lt_succ_self _)) #[.float x t1, .float y t2, .float z t3],
    ⟨⟨_, Heap.get?_push_size _ rfl, rfl, rfl⟩, hT.push _⟩, fun d hd => ?_, by simp, cmpOf_lt #[.float x t1, .float y t2, .float z t3] (by simp [NumV.float]), fun v h' tk hP hk => ?_⟩
  · show d < ((s.heap.push _).push _).objs.size
    rw [Heap.size_push, hsz]
    rcases List.mem_cons.mp hd with rfl | hd
    · rw [hsz]; exact Nat.lt_succ_self _
    · rcases List.mem_cons.mp hd with rfl | hd
      · exact Nat.lt_succ_of_lt (Nat.lt_succ_self _)
      · cases hd
  · have hold : ∀ d o, s.heap.get? d = some o → h'.get? d = some o := fun d o e => by
      refine hk d o (fun hm => ?_) (Heap.get?_push_of_some _ (Heap.get?_push_of_some _ e))
      rcases List.mem_cons.mp hm with e1 | hm
      · have := Heap.lt_size e; rw [e1, hsz] at this; exact Nat.lt_irrefl _ (Nat.lt_of_succ_lt this)
      · cases hm
    have F' := F.grownK hold
    have N' := N.grown hold
    have e1 := cmp_lt hy hx
    have e2 := cmp_lt hz hx
    have e3 := cmp_lt hz hy
    have hb : v = if b < a then (if c < b then Value.float z t3 else Value.float y t2) else (if c < a then Value.float z t3 else Value.float x t1) := by
      have hP' : (#[.float x t1, .float y t2, .float z t3] : Array Value)[argBest (fun i j => ltV ((#[.float x t1, .float y t2, .float z t3] : Array Value).getD i .none) ((#[.float x t1, .float y t2, .float z t3] : Array Value).getD j .none)) 2]? = some v := hP
      by_cases h1 : b < a <;> by_cases h2 : c < b <;> by_cases h3 : c < a <;> simp [argBest, ltV, e1, e2, e3, h1, h2, h3] at hP' <;> simp [h1, h2, h3, hP']
    rw [hb]
    by_cases h1 : b < a
    · rw [if_pos h1]
      by_cases h2 : c < b
      · rw [if_pos h2]; exact h h' tk z t3 c hz ⟨.inr (.inr rfl), by omega, by omega, by omega⟩ F' N'
      · rw [if_neg h2]; exact h h' tk y t2 b hy ⟨.inr (.inl rfl), by omega, by omega, by omega⟩ F' N'
    · rw [if_neg h1]
      by_cases h2 : c < a
      · rw [if_pos h2]; exact h h' tk z t3 c hz ⟨.inr (.inr rfl), by omega, by omega, by omega⟩ F' N'
      · rw [if_neg h2]; exact h h' tk x t1 a hx ⟨.inl rfl, by omega, by omega, by omega⟩ F' N'
theorem modR1 (hz : Float64.isZero y = false) (h : Q (.float (Float64.divmod x y).2 s.toks) { s with toks := s.toks + 1 }) : wpAny (model prog w) A (binaryOp .Mod (.float x t1) (.float y t2)) Q E s := AutoFloatOps.mod_1 (by rw [hz]; decide) h
end
end Mine
end

section
open PySem PySem.W PyProof.Rows
set_option maxRecDepth 100000
namespace Mine
section
variable {prog : Program} {w : World} {A : Around} {E : Value → Shared → Prop} {s : Shared} {Q : Value → Shared → Prop} {h₀ : Heap} {L : Addr} {m : Str → Option Value} {news : Led} {x y z : UInt64} {t1 t2 t3 : Tok} {a b c : Int}
theorem TZ : (0 : Int) < T := by have := T_pos; omega
theorem lv_lt {a b : Int} : a * 1024 * T < b * 1024 * T ↔ a < b := by
  have h := TZ
  constructor
  · intro q
    have := Int.lt_of_mul_lt_mul_right q (Int.le_of_lt h)
    omega
  · intro q
    exact Int.mul_lt_mul_of_pos_right (by omega) h
theorem lv_inj {a b : Int} : a * 1024 * T = b * 1024 * T ↔ a = b := by
  constructor
  · intro q
    rcases Int.lt_trichotomy a b with h | h | h
    · have := lv_lt.mpr h; omega
    · exact h
    · have := lv_lt.mpr h; omega
  · intro q; rw [q]
theorem max3L (hh : A.handled = none) (F : Fr h₀ L s.heap m) (N : News h₀ L s.heap news) (hx : FV x (a * 1024 * T)) (hy : FV y (b * 1024 * T)) (hz : FV z (c * 1024 * T))
    (h : ∀ h' tk u t M, FV u (M * 1024 * T) → IsMax M a b c → Fr h₀ L h' m → News h₀ L h' news → Q (.float u t) { s with heap := h', toks := tk }) : wpAny (model prog w) A (call (.builtin "max") [.float x t1, .float y t2, .float z t3]) Q E s :=
  max3 hh F N hx hy hz fun h' tk u t M hu hM F' N' => by
    have key : ∀ {p q : Int}, p * 1024 * T ≤ q * 1024 * T → p ≤ q := fun {p q} k => by
      rcases Int.lt_or_le q p with h | h
      · have := lv_lt.mpr h; omega
      · exact h
    obtain ⟨e, h1, h2, h3⟩ := hM
    rcases e with e | e | e <;> subst e
    · exact h h' tk u t a hu ⟨.inl rfl, Int.le_refl _, key h2, key h3⟩ F' N'
    · exact h h' tk u t b hu ⟨.inr (.inl rfl), key h1, Int.le_refl _, key h3⟩ F' N'
    · exact h h' tk u t c hu ⟨.inr (.inr rfl), key h1, key h2, Int.le_refl _⟩ F' N'
theorem min3L (hh : A.handled = none) (F : Fr h₀ L s.heap m) (N : News h₀ L s.heap news) (hx : FV x (a * 1024 * T)) (hy : FV y (b * 1024 * T)) (hz : FV z (c * 1024 * T))
    (h : ∀ h' tk u t M, FV u (M * 1024 * T) → IsMin M a b c → Fr h₀ L h' m → News h₀ L h' news → Q (.float u t) { s with heap := h', toks := tk }) : wpAny (model prog w) A (call (.builtin "min") [.float x t1, .float y t2, .float z t3]) Q E s :=
  min3 hh F N hx hy hz fun h' tk u t M hu hM F' N' => by
    have key : ∀ {p q : Int}, p * 1024 * T ≤ q * 1024 * T → p ≤ q := fun {p q} k => by
      rcases Int.lt_or_le q p with h | h
      · have := lv_lt.mpr h; omega
      · exact h
    obtain ⟨e, h1, h2, h3⟩ := hM
    rcases e with e | e | e <;> subst e
    · exact h h' tk u t a hu ⟨.inl rfl, Int.le_refl _, key h2, key h3⟩ F' N'
    · exact h h' tk u t b hu ⟨.inr (.inl rfl), key h1, Int.le_refl _, key h3⟩ F' N'
    · exact h h' tk u t c hu ⟨.inr (.inr rfl), key h1, key h2, Int.le_refl _⟩ F' N'
end

/-- what the hue tells of three levels -/
def RgbOk (lr lg lb : Int) (x : UInt64) : Prop := ∃ u, FV x u ∧ (lg < lr → lb < lr → u < SX ∨ C5 ≤ u) ∧ (lr < lg → lb < lg → SX ≤ u ∧ u < HF) ∧ (lr < lb → lg < lb → HF ≤ u ∧ u < C5)
abbrev In30 (a : Int) : Prop := 0 < a ∧ a < 2 ^ 30
section
open PySem.Float64
variable {r g b mx mn : UInt64} {lr lg lb M M' : Int}
theorem cmp_lv {x y : UInt64} {a b : Int} (hx : FV x (a * 1024 * T)) (hy : FV y (b * 1024 * T)) : (cmp x y == some .eq) = true ↔ a = b := by
  rw [cmp_eq hx hy, decide_eq_true_iff]; exact lv_inj
theorem cmp_ne {x y : UInt64} {a b : Int} (hx : FV x (a * 1024 * T)) (hy : FV y (b * 1024 * T)) (h : (cmp x y == some .eq) = false) : a ≠ b := fun e => by
  have := (cmp_lv hx hy).mpr e
  rw [h] at this; cases this
theorem max_in (hM : IsMax M lr lg lb) (b1 : In30 lr) (b2 : In30 lg) (b3 : In30 lb) : In30 M := by
  obtain ⟨e, _, _, _⟩ := hM
  rcases e with rfl | rfl | rfl <;> assumption
theorem min_in (hM : IsMin M lr lg lb) (b1 : In30 lr) (b2 : In30 lg) (b3 : In30 lb) : In30 M := by
  obtain ⟨e, _, _, _⟩ := hM
  rcases e with rfl | rfl | rfl <;> assumption
theorem mul_ne {a : Int} (h : a ≠ 0) : a * 1024 * T ≠ 0 := by
  intro e
  have hT := TZ
  rcases Int.mul_eq_zero.mp e with h1 | h1
  · omega
  · omega
theorem range_z (fx : FV mx (M * 1024 * T)) (fn : FV mn (M' * 1024 * T)) (hM : IsMax M lr lg lb) (hm : IsMin M' lr lg lb) (b1 : In30 lr) (b2 : In30 lg) (b3 : In30 lb) (hne : (cmp mn mx == some .eq) = false) : isZero (sub mx mn) = false := by
  have i1 := max_in hM b1 b2 b3
  have i2 := min_in hm b1 b2 b3
  have hne' : M' ≠ M := cmp_ne fn fx hne
  rw [isZero_fv (sub_lv fx fn ⟨Int.le_of_lt i1.1, i1.2⟩ ⟨Int.le_of_lt i2.1, i2.2⟩)]
  exact decide_eq_false (mul_ne (by omega))
theorem top_z (fx : FV mx (M * 1024 * T)) (hM : IsMax M lr lg lb) (b1 : In30 lr) (b2 : In30 lg) (b3 : In30 lb) : isZero mx = false := by
  have i1 := max_in hM b1 b2 b3
  rw [isZero_fv fx]
  exact decide_eq_false (mul_ne (by omega))
theorem quot {x : UInt64} {l : Int} (fx : FV mx (M * 1024 * T)) (fn : FV mn (M' * 1024 * T)) (fl : FV x (l * 1024 * T)) (i1 : In30 M) (i2 : In30 M') (i3 : In30 l) (h1 : M' ≤ l) (h2 : l ≤ M) (hne : M' ≠ M) :
    Q01 (div (sub mx x) (sub mx mn)) (M - l) (M - M') :=
  ratio_q (sub_lv fx fl ⟨Int.le_of_lt i1.1, i1.2⟩ ⟨Int.le_of_lt i3.1, i3.2⟩) (sub_lv fx fn ⟨Int.le_of_lt i1.1, i1.2⟩ ⟨Int.le_of_lt i2.1, i2.2⟩) (by omega) (by omega) (by omega) (by omega)
variable (fr : FV r (lr * 1024 * T)) (fg : FV g (lg * 1024 * T)) (fb : FV b (lb * 1024 * T)) (fx : FV mx (M * 1024 * T)) (fn : FV mn (M' * 1024 * T)) (hM : IsMax M lr lg lb) (hm : IsMin M' lr lg lb) (b1 : In30 lr) (b2 : In30 lg) (b3 : In30 lb)
include fx fn hM hm
theorem rgb_same (h : (cmp mn mx == some .eq) = true) : RgbOk lr lg lb 0 := by
  have e := (cmp_lv fn fx).mp h
  obtain ⟨h0, h1, h2, h3⟩ := hM
  clear h0
  obtain ⟨k0, k1, k2, k3⟩ := hm
  clear k0
  exact ⟨0, fv_of (by decide +kernel) (by decide +kernel), fun _ _ => by omega, fun _ _ => by omega, fun _ _ => by omega⟩
include fr fg fb b1 b2 b3
theorem rgb_red (hne : (cmp mn mx == some .eq) = false) (h : (cmp r mx == some .eq) = true) :
    RgbOk lr lg lb (hueF (sub (div (sub mx b) (sub mx mn)) (div (sub mx g) (sub mx mn)))) := by
  have i1 := max_in hM b1 b2 b3
  have i2 := min_in hm b1 b2 b3
  have hne' : M' ≠ M := cmp_ne fn fx hne
  have e := (cmp_lv fr fx).mp h
  obtain ⟨h0, h1, h2, h3⟩ := hM
  clear h0
  obtain ⟨k0, k1, k2, k3⟩ := hm
  have k4 : M' = lg ∨ M' = lb := by
    rcases k0 with q | q | q
    · exact absurd (q.trans e) hne'
    · exact .inl q
    · exact .inr q
  clear k0
  obtain ⟨u, fu, hu⟩ := hue_red (quot fx fn fb i1 i2 b3 k3 h3 hne') (quot fx fn fg i1 i2 b2 k2 h2 hne') (by omega)
  exact ⟨u, fu, fun _ _ => hu (by omega) (by omega), fun _ _ => by omega, fun _ _ => by omega⟩
theorem rgb_green (hne : (cmp mn mx == some .eq) = false) (h' : (cmp r mx == some .eq) = false) (h : (cmp g mx == some .eq) = true) :
    RgbOk lr lg lb (hueF (sub (add cTwo (div (sub mx r) (sub mx mn))) (div (sub mx b) (sub mx mn)))) := by
  have i1 := max_in hM b1 b2 b3
  have i2 := min_in hm b1 b2 b3
  have hne' : M' ≠ M := cmp_ne fn fx hne
  have e := (cmp_lv fg fx).mp h
  have e' : lr ≠ M := cmp_ne fr fx h'
  obtain ⟨h0, h1, h2, h3⟩ := hM
  clear h0
  obtain ⟨k0, k1, k2, k3⟩ := hm
  have k4 : M' = lr ∨ M' = lb := by
    rcases k0 with q | q | q
    · exact .inl q
    · exact absurd (q.trans e) hne'
    · exact .inr q
  clear k0
  obtain ⟨u, fu, hu⟩ := hue_green (quot fx fn fr i1 i2 b1 k1 h1 hne') (quot fx fn fb i1 i2 b3 k3 h3 hne') (by omega)
  exact ⟨u, fu, fun _ _ => by omega, fun _ _ => hu (by omega) (by omega), fun _ _ => by omega⟩
theorem rgb_blue (hne : (cmp mn mx == some .eq) = false) (h' : (cmp r mx == some .eq) = false) (h : (cmp g mx == some .eq) = false) :
    RgbOk lr lg lb (hueF (sub (add cFour (div (sub mx g) (sub mx mn))) (div (sub mx r) (sub mx mn)))) := by
  have i1 := max_in hM b1 b2 b3
  have i2 := min_in hm b1 b2 b3
  have hne' : M' ≠ M := cmp_ne fn fx hne
  have e : lg ≠ M := cmp_ne fg fx h
  have e' : lr ≠ M := cmp_ne fr fx h'
  obtain ⟨kM, h1, h2, h3⟩ := hM
  obtain ⟨k0, k1, k2, k3⟩ := hm
  have eb : lb = M := by
    rcases kM with q | q | q
    · exact absurd q.symm e'
    · exact absurd q.symm e
    · exact q.symm
  have k4 : M' = lr ∨ M' = lg := by
    rcases k0 with q | q | q
    · exact .inl q
    · exact .inr q
    · exact absurd (q.trans eb) hne'
  clear kM e e' k0
  obtain ⟨u, fu, hu⟩ := hue_blue (quot fx fn fg i1 i2 b2 k2 h2 hne') (quot fx fn fr i1 i2 b1 k1 h1 hne') (by omega)
  exact ⟨u, fu, fun _ _ => by omega, fun _ _ => by omega, fun _ _ => hu (by omega) (by omega)⟩
end
end Mine
end

section
open PySem PySem.W PyProof.Rows
set_option Elab.async false
set_option maxRecDepth 100000
set_option maxHeartbeats 4000000
namespace Mine
section
theorem rgb_does (w : World) (mean : ExcName → Option Value) (mg mb : Str → Option Value) (r g b : UInt64) (t1 t2 t3 : Tok) (lr lg lb : Int) (fr : FV r (lr * 1024 * Mine.T)) (fg : FV g (lg * 1024 * Mine.T)) (fb : FV b (lb * 1024 * Mine.T)) (b1 : In30 lr) (b2 : In30 lg) (b3 : In30 lb) :
    Does w mean mg mb 28 [.float r t1, .float g t2, .float b t3] [] 1 (fun tl v => ∃ t n x y z tx ty tz M, v = .ref t ∧ (t, tupOf [.float x tx, .float y ty, .float z tz] n) ∈ tl ∧ RgbOk lr lg lb x ∧ FV z (M * 1024 * Mine.T) ∧ IsMax M lr lg lb) := by
  unfold Does
  k_fill
  intro dp un gd cn cs a ccd cl outer A₀ base h₀ L m news s Q E B F X N T hk hex hd hu hret
  have hfull := N
  have hN : News h₀ L s.heap _ := fun p hp => N p (hex p hp)
  clear N
  refine wpAny_call ?_
  k_dflt (refine' enterP (binds := [(Str.ofString "r", .float r t1), (Str.ofString "g", .float g t2), (Str.ofString "b", .float b t3)]) ?k1 ?k2 ?k3 hN ?k5 ?kA ?kF ?kK ?k6 ?k7 ?k8 ?k9 ?kB ?_ ?c2 ?c3 ?c4 ?c5; (case kA => exact rfl); (case kF => exact rfl); (case kK => assumption); (case k1 => k_asm); (case k2 => k_asm); (case k3 => k_asm); (case k5 => k_asm); (case k6 => k_is); (case k7 => k_is); (case k8 => ktr_room); (case k9 => first | exact BindsTo.of_eq rfl | exact binds_K (by k_in) rfl (by k_is) rfl rfl rfl); (case c5 => decide); (case kB => exact locs rfl); (case c2 => exact rfl); (case c3 => exact rfl); (case c4 => exact rfl); k_whole; intro g' L' h' tk' hg' FG' F' N' B' X' T' l1; (try dsimp only); (try k_fold))
  (try k_lt l1)
  repeat' (first | (k_unfold; (try dsimp only)) | (k_end; wrow_close) | ((with_reducible show wpAny _ _ (call (Value.builtin "min") _) _ _ _); (with_reducible (k_here; with_unfolding_all (refine' min3L ?zqk1 ?zqk2 ?zqk3 ?zqh1 ?zqh2 ?zqh3 ?_; (case zqk1 => rfl); (case zqk2 => k_asm); (case zqk3 => k_asm); (case zqh1 => assumption); (case zqh2 => assumption); (case zqh3 => assumption); intro h9 tk9 mn tn M' fn hn F9 N9))); (first | (with_reducible show wpAny _ _ (subscriptTail _ _ _ (Value.ref _)) _ _ _) | (with_reducible show wpAny _ _ (setItem _ (Value.ref _) _) _ _ _) | dsimp only | skip)) | ((with_reducible show wpAny _ _ (call (Value.builtin "max") _) _ _ _); (with_reducible (k_here; with_unfolding_all (refine' max3L ?zqk1 ?zqk2 ?zqk3 ?zqh1 ?zqh2 ?zqh3 ?_; (case zqk1 => rfl); (case zqk2 => k_asm); (case zqk3 => k_asm); (case zqh1 => assumption); (case zqh2 => assumption); (case zqh3 => assumption); intro h9 tk9 mx tx M fx hx F9 N9))); (first | (with_reducible show wpAny _ _ (subscriptTail _ _ _ (Value.ref _)) _ _ _) | (with_reducible show wpAny _ _ (setItem _ (Value.ref _) _) _ _ _) | dsimp only | skip)) | (walk1; (first | (with_reducible show wpAny _ _ (subscriptTail _ _ _ (Value.ref _)) _ _ _) | (with_reducible show wpAny _ _ (setItem _ (Value.ref _) _) _ _ _) | dsimp only | skip)) | (dsimp only; walk1) | (leave1; (try dsimp only)) | fail "no step")
  all_goals (rename IsMax _ _ _ _ => hx; rename IsMin _ _ _ _ => hn)
  · (refine' hret _ [(_, _)] _ _ ?e0 (newsBack hfull hg' (by assumption) (by assumption) ?e1 hex ?e2) (apartBack hfull hg' (by assumption) ?e3 ?e4) ⟨_, _, _, _, _, _, _, _, _, rfl, List.Mem.head _, rgb_same (by assumption) (by assumption) hx hn (by assumption), by assumption, hx⟩; (case e0 => k_asm); (case e1 => (repeat' (first | exact List.forall_mem_nil _ | refine List.forall_mem_cons.mpr ⟨by k_mem, ?_⟩))); (case e2 => (repeat' (first | exact List.forall_mem_nil _ | refine List.forall_mem_cons.mpr ⟨by k_mem, ?_⟩))); (case e3 => (repeat' (first | exact List.forall_mem_nil _ | refine List.forall_mem_cons.mpr ⟨by k_mem, ?_⟩))); (case e4 => (repeat' (first | exact List.forall_mem_nil _ | refine List.forall_mem_cons.mpr ⟨by first | exact neSub (by assumption) (by repeat' (first | exact List.forall_mem_nil _ | refine List.forall_mem_cons.mpr ⟨by k_mem, ?_⟩)) | k_all, ?_⟩))))
  · exfalso
    rename Float64.isZero _ = true => hz
    rw [top_z (by assumption) hx b1 b2 b3] at hz
    cases hz
  · exfalso
    rename Float64.isZero _ = true => hz
    rw [range_z (by assumption) (by assumption) hx hn b1 b2 b3 (by assumption)] at hz
    cases hz
  · (refine' hret _ [(_, _)] _ _ ?e0 (newsBack hfull hg' (by assumption) (by assumption) ?e1 hex ?e2) (apartBack hfull hg' (by assumption) ?e3 ?e4) ⟨_, _, _, _, _, _, _, _, _, rfl, List.Mem.head _, rgb_red fr fg fb (by assumption) (by assumption) hx hn b1 b2 b3 (by assumption) (by assumption), by assumption, hx⟩; (case e0 => k_asm); (case e1 => (repeat' (first | exact List.forall_mem_nil _ | refine List.forall_mem_cons.mpr ⟨by k_mem, ?_⟩))); (case e2 => (repeat' (first | exact List.forall_mem_nil _ | refine List.forall_mem_cons.mpr ⟨by k_mem, ?_⟩))); (case e3 => (repeat' (first | exact List.forall_mem_nil _ | refine List.forall_mem_cons.mpr ⟨by k_mem, ?_⟩))); (case e4 => (repeat' (first | exact List.forall_mem_nil _ | refine List.forall_mem_cons.mpr ⟨by first | exact neSub (by assumption) (by repeat' (first | exact List.forall_mem_nil _ | refine List.forall_mem_cons.mpr ⟨by k_mem, ?_⟩)) | k_all, ?_⟩))))
  · (refine' hret _ [(_, _)] _ _ ?e0 (newsBack hfull hg' (by assumption) (by assumption) ?e1 hex ?e2) (apartBack hfull hg' (by assumption) ?e3 ?e4) ⟨_, _, _, _, _, _, _, _, _, rfl, List.Mem.head _, rgb_green fr fg fb (by assumption) (by assumption) hx hn b1 b2 b3 (by assumption) (by assumption) (by assumption), by assumption, hx⟩; (case e0 => k_asm); (case e1 => (repeat' (first | exact List.forall_mem_nil _ | refine List.forall_mem_cons.mpr ⟨by k_mem, ?_⟩))); (case e2 => (repeat' (first | exact List.forall_mem_nil _ | refine List.forall_mem_cons.mpr ⟨by k_mem, ?_⟩))); (case e3 => (repeat' (first | exact List.forall_mem_nil _ | refine List.forall_mem_cons.mpr ⟨by k_mem, ?_⟩))); (case e4 => (repeat' (first | exact List.forall_mem_nil _ | refine List.forall_mem_cons.mpr ⟨by first | exact neSub (by assumption) (by repeat' (first | exact List.forall_mem_nil _ | refine List.forall_mem_cons.mpr ⟨by k_mem, ?_⟩)) | k_all, ?_⟩))))
  · (refine' hret _ [(_, _)] _ _ ?e0 (newsBack hfull hg' (by assumption) (by assumption) ?e1 hex ?e2) (apartBack hfull hg' (by assumption) ?e3 ?e4) ⟨_, _, _, _, _, _, _, _, _, rfl, List.Mem.head _, rgb_blue fr fg fb (by assumption) (by assumption) hx hn b1 b2 b3 (by assumption) (by assumption) (by assumption), by assumption, hx⟩; (case e0 => k_asm); (case e1 => (repeat' (first | exact List.forall_mem_nil _ | refine List.forall_mem_cons.mpr ⟨by k_mem, ?_⟩))); (case e2 => (repeat' (first | exact List.forall_mem_nil _ | refine List.forall_mem_cons.mpr ⟨by k_mem, ?_⟩))); (case e3 => (repeat' (first | exact List.forall_mem_nil _ | refine List.forall_mem_cons.mpr ⟨by k_mem, ?_⟩))); (case e4 => (repeat' (first | exact List.forall_mem_nil _ | refine List.forall_mem_cons.mpr ⟨by first | exact neSub (by assumption) (by repeat' (first | exact List.forall_mem_nil _ | refine List.forall_mem_cons.mpr ⟨by k_mem, ?_⟩)) | k_all, ?_⟩))))
end
end Mine
end

section
open PySem PySem.W PyProof.Rows
set_option maxRecDepth 10000
namespace Mine
theorem E7.ext' {x y : E7} (h1 : x.cc = y.cc) (h2 : x.nc = y.nc) (h3 : x.tt = y.tt) (h4 : x.ct = y.ct) (h5 : x.r = y.r) (h6 : x.g = y.g) (h7 : x.b = y.b) : x = y := by
  cases x; cases y; simp_all
theorem mir2 {a b x : Int} : 2 * (a + b) - (2 * (a + b) - x) = x := by omega
theorem mirror2 {x y z : E7} : E7.mirror (E7.mirror x y z) y z = x := by
  cases x
  simp only [E7.mirror, mir2]
theorem turn_turn {c : Nat} (e : E3) : turnE c (turnE c e) = e := by
  obtain ⟨x, y, z⟩ := e
  unfold turnE
  by_cases h0 : c = 0
  · simp only [h0, if_true, mirror2]
  · by_cases h1 : c = 1
    · simp only [h1, Nat.one_ne_zero, if_false, if_true, mirror2]
    · simp only [h0, h1, if_false, mirror2]
theorem snocInd {motive : List Nat → Prop} (nil : motive []) (snoc : ∀ w k, motive w → motive (w ++ [k])) (w : List Nat) : motive w := by
  rw [← List.reverse_reverse w]
  induction w.reverse with
  | nil => exact nil
  | cons k r ih => rw [List.reverse_cons]; exact snoc _ _ ih
theorem foldE_snoc {w : List Nat} {k : Nat} {e : E3} : foldE (w ++ [k]) e = turnE (placeOf k) (foldE w e) := by simp [foldE]
theorem place_code {j : Int} (h : 0 ≤ j ∧ j < 3) : placeOf (codeOf j) = j.toNat := by
  have : j = 0 ∨ j = 1 ∨ j = 2 := by omega
  rcases this with rfl | rfl | rfl <;> rfl
theorem unfold_back : ∀ (u w : List Nat) (e : E3), (u.reverse).foldl (fun e k => turnE (placeOf k) e) (foldE (w ++ u) e) = foldE w e := by
  intro u
  induction u with
  | nil => intro w e; simp
  | cons k u ih =>
    intro w e
    rw [List.reverse_cons, List.foldl_append, show w ++ k :: u = (w ++ [k]) ++ u by simp, ih (w ++ [k]) e, foldE_snoc]
    exact turn_turn _
theorem step_fold {w : List Nat} {e0 : E3} (x : Int) : (stepR (w, foldE w e0) x).2 = foldE (stepR (w, foldE w e0) x).1 e0 := by
  unfold stepR
  have h4 : 0 ≤ x % 4 ∧ x % 4 < 4 := ⟨Int.emod_nonneg _ (by decide), Int.emod_lt_of_pos _ (by decide)⟩
  split
  · rename_i h
    dsimp only
    generalize w.length - 1 - (x / 4 % 3).toNat = n
    have e : w = w.take n ++ w.drop n := (List.take_append_drop n w).symm
    conv => lhs; arg 2; rw [e]
    exact unfold_back _ _ _
  · rename_i h
    dsimp only
    have hc : turnE (x % 4).toNat (foldE w e0) = turnE (placeOf (codeOf (x % 4))) (foldE w e0) := by rw [place_code (by omega)]
    rw [hc]
    unfold pushS
    split
    · rename_i hl
      obtain ⟨v, rfl⟩ := List.getLast?_eq_some_iff.mp hl
      rw [foldE_snoc, turn_turn, List.dropLast_concat]
    · rw [foldE_snoc]
theorem run_fold : ∀ (ns : List Int) (w : List Nat) (e0 : E3), (ns.foldl stepR (w, foldE w e0)).2 = foldE (ns.foldl stepR (w, foldE w e0)).1 e0
  | [], _, _ => rfl
  | x :: r, w, e0 => by
    rw [List.foldl_cons]
    have h := step_fold (w := w) (e0 := e0) x
    generalize stepR (w, foldE w e0) x = c at h
    obtain ⟨c1, c2⟩ := c
    dsimp only at h
    subst h
    exact run_fold r c1 e0
theorem runN_snd (ns : List Int) (e0 : E3) : (runN ns e0).2 = foldE (leftN ns) e0 := by
  have h := run_fold ns [] e0
  have h1 : foldE [] e0 = e0 := rfl
  rw [h1] at h
  have h2 := runN_fst ns e0
  unfold runN at h2 ⊢
  rw [h, h2]
/-- the entries' levels -/
def levE (e : E3) : Int × Int × Int := (e.1.ct, e.2.1.ct, e.2.2.ct)
def sgK (k : Nat) : Prop := k = 64 ∨ k = 94 ∨ k = 126
theorem linM {a b c f : Int} : (2 * (a + b) - c) * f = 2 * (a * f + b * f) - c * f := by rw [Int.sub_mul, Int.mul_assoc, Int.add_mul]
theorem mi1 {a b c : Int} : 2 * (a + b + c) - 3 * a = 2 * (b + c) - a := by omega
theorem mi2 {a b c : Int} : 2 * (a + b + c) - 3 * b = 2 * (a + c) - b := by omega
theorem mi3 {a b c : Int} : 2 * (a + b + c) - 3 * c = 2 * (a + b) - c := by omega
theorem light_snoc {w : List Nat} {k : Nat} {l : Int × Int × Int} : lightN (w ++ [k]) l = turnL k (lightN w l) := by simp [lightN]
theorem ent_snoc {w : List Nat} {k : Nat} {f : Int × Int × Int} (hk : sgK k) : entOf (w ++ [k]) f = turnE (placeOf k) (entOf w f) := by
  unfold entOf
  simp only [light_snoc]
  generalize lightN w (1, 0, 0) = R
  generalize lightN w (0, 1, 0) = G
  generalize lightN w (0, 0, 1) = B
  generalize lightN w f = T
  obtain ⟨R1, R2, R3⟩ := R
  obtain ⟨G1, G2, G3⟩ := G
  obtain ⟨B1, B2, B3⟩ := B
  obtain ⟨T1, T2, T3⟩ := T
  rcases hk with rfl | rfl | rfl
  · simp only [turnL, turnE, placeOf, E7.mirror, if_true, mi1, linM]
  · simp only [turnL, turnE, placeOf, E7.mirror, if_true, mi2, linM, show ¬ (94 = 64) by decide, if_false, Nat.one_ne_zero]
  · simp only [turnL, turnE, placeOf, E7.mirror, if_true, mi3, linM, show ¬ (126 = 64) by decide, show ¬ (126 = 94) by decide, if_false, show ¬ (2 = 0) by decide, show ¬ (2 = 1) by decide]
theorem ent_fold {f : Int × Int × Int} : ∀ (w : List Nat), (∀ k ∈ w, sgK k) → foldE w (entOf [] f) = entOf w f := by
  intro w
  induction w using snocInd with
  | nil => intro _; rfl
  | snoc w k ih =>
    intro h
    rw [foldE_snoc, ent_snoc (h k (by simp)), ih fun k hk => h k (by simp [hk])]
/-- the callers' sum is the level -/
def SumOk (e : E3) : Prop := e.1.r + e.1.g + e.1.b = e.1.ct ∧ e.2.1.r + e.2.1.g + e.2.1.b = e.2.1.ct ∧ e.2.2.r + e.2.2.g + e.2.2.b = e.2.2.ct
theorem sum_turn {c : Nat} {e : E3} (h : SumOk e) : SumOk (turnE c e) := by
  obtain ⟨x, y, z⟩ := e
  obtain ⟨h1, h2, h3⟩ := h
  dsimp only at h1 h2 h3
  unfold turnE
  split
  · exact ⟨by simp only [E7.mirror]; omega, h2, h3⟩
  · split
    · exact ⟨h1, by simp only [E7.mirror]; omega, h3⟩
    · exact ⟨h1, h2, by simp only [E7.mirror]; omega⟩
theorem sum_fold : ∀ (w : List Nat) {e : E3}, SumOk e → SumOk (foldE w e)
  | [], _, h => h
  | k :: w, _, h => sum_fold w (sum_turn (c := placeOf k) h)
theorem sum_nil {f : Int × Int × Int} : SumOk (entOf [] f) := by
  obtain ⟨a, b, c⟩ := f
  refine ⟨?_, ?_, ?_⟩ <;> simp [entOf, lightN]
/-- what holds of a light whose last sign is known -/
structure LevOk (w : List Nat) (n : Nat) (l : Int × Int × Int) : Prop where
  p1 : 0 < l.1
  p2 : 0 < l.2.1
  p3 : 0 < l.2.2
  b1 : l.1 ≤ 16 * 4 ^ n
  b2 : l.2.1 ≤ 16 * 4 ^ n
  b3 : l.2.2 ≤ 16 * 4 ^ n
  e : w = [] → l.1 < l.2.1 + l.2.2 ∧ l.2.1 < l.1 + l.2.2 ∧ l.2.2 < l.1 + l.2.1
  r : w.getLast? = some 64 → l.2.1 + l.2.2 < l.1
  g : w.getLast? = some 94 → l.1 + l.2.2 < l.2.1
  b : w.getLast? = some 126 → l.1 + l.2.1 < l.2.2
theorem lev_step {w : List Nat} {k n : Nat} {l : Int × Int × Int} (h : LevOk w n l) (hk : sgK k) (hn : w.getLast? ≠ some k) (hw : ∀ j ∈ w, sgK j) : LevOk (w ++ [k]) (n + 1) (turnL k l) := by
  obtain ⟨p1, p2, p3, b1, b2, b3, he, hr, hg, hb⟩ := h
  obtain ⟨x, y, z⟩ := l
  dsimp only at p1 p2 p3 b1 b2 b3 he hr hg hb
  have h4 : (16 * 4 ^ (n + 1) : Int) = 4 * (16 * 4 ^ n) := by rw [Int.pow_succ]; omega
  have h5 : (0 : Int) < 16 * 4 ^ n := by omega
  generalize (16 * 4 ^ n : Int) = M at *
  have last : (w ++ [k]).getLast? = some k := by simp
  have nn : ¬ (w ++ [k] = []) := by simp
  -- the last sign of w
  have cases : w = [] ∨ w.getLast? = some 64 ∨ w.getLast? = some 94 ∨ w.getLast? = some 126 := by
    rcases List.eq_nil_or_concat w with h | ⟨v, j, rfl⟩
    · exact .inl h
    · right
      have := hw j (by simp)
      rcases this with rfl | rfl | rfl <;> simp
  rcases hk with rfl | rfl | rfl
  · have key : x < y + z := by
      rcases cases with h | h | h | h
      · exact (he h).1
      · exact absurd h hn
      · have := hg h; omega
      · have := hb h; omega
    have e : turnL 64 (x, y, z) = (2 * (x + y + z) - 3 * x, y, z) := rfl
    rw [e]
    refine ⟨by dsimp only; omega, p2, p3, by dsimp only; omega, by dsimp only; omega, by dsimp only; omega, fun h => absurd h nn, fun _ => by dsimp only; omega, fun h => ?_, fun h => ?_⟩
    · rw [last] at h; cases h
    · rw [last] at h; cases h
  · have key : y < x + z := by
      rcases cases with h | h | h | h
      · exact (he h).2.1
      · have := hr h; omega
      · exact absurd h hn
      · have := hb h; omega
    have e : turnL 94 (x, y, z) = (x, 2 * (x + y + z) - 3 * y, z) := rfl
    rw [e]
    refine ⟨p1, by dsimp only; omega, p3, by dsimp only; omega, by dsimp only; omega, by dsimp only; omega, fun h => absurd h nn, fun h => ?_, fun _ => by dsimp only; omega, fun h => ?_⟩
    · rw [last] at h; cases h
    · rw [last] at h; cases h
  · have key : z < x + y := by
      rcases cases with h | h | h | h
      · exact (he h).2.2
      · have := hr h; omega
      · have := hg h; omega
      · exact absurd h hn
    have e : turnL 126 (x, y, z) = (x, y, 2 * (x + y + z) - 3 * z) := rfl
    rw [e]
    refine ⟨p1, p2, by dsimp only; omega, by dsimp only; omega, by dsimp only; omega, by dsimp only; omega, fun h => absurd h nn, fun h => ?_, fun h => ?_, fun _ => by dsimp only; omega⟩
    · rw [last] at h; cases h
    · rw [last] at h; cases h
theorem lev_word {f : Int × Int × Int} (hf : LevOk [] 0 f) : ∀ (w : List Nat), NoDbl w → (∀ k ∈ w, sgK k) → LevOk w w.length (lightN w f) := by
  intro w
  induction w using snocInd with
  | nil => intro _ _; exact hf
  | snoc w k ih =>
    intro hd hs
    have hd' : NoDbl w := by
      have := noDbl_dropLast hd
      rwa [List.dropLast_concat] at this
    have hn : w.getLast? ≠ some k := by
      intro h
      obtain ⟨v, rfl⟩ := List.getLast?_eq_some_iff.mp h
      exact hd v.length k (by simp) (by simp)
    rw [light_snoc, List.length_append, List.length_singleton]
    exact lev_step (ih hd' fun j hj => hs j (by simp [hj])) (hs k (by simp)) hn fun j hj => hs j (by simp [hj])
end Mine
end

section
open PySem PySem.W PyProof.Rows PySem.Calls PySem.Spec
set_option maxRecDepth 100000
namespace Mine
section
variable {prog : Program} {w : World} {A : Around} {E : Value → Shared → Prop} {s : Shared} {env : Env} {h₀ : Heap} {x : Str} {body : List Stmt} {Q : Flow → Shared → Prop} {σ : Type}
/-- a loop over a range of small numbers -/
theorem loopRange {r : Addr} {n : Nat} {t₀ u₀ v₀ : Tok} {m₀ : Str → Option Value} (LedOf : σ → Led) (ps : σ → List (Str × Value)) (stored : List Str) (Inv : Nat → σ → Prop) (c₀ : σ) (hh : A.handled = none)
    (hr : IsRange s.heap r 0 n 1 t₀ u₀ v₀) (hsmall : Builtin.Range.small 0 n 1 = true) (hn : Builtin.Range.rangeSize 0 n 1 = (n : Int))
    (F : Fr h₀ env.locals s.heap m₀) (N : News h₀ env.locals s.heap (LedOf c₀)) (hk : ∀ p ∈ ps c₀, m₀ p.1 = some p.2) (hp : Inv 0 c₀)
    (turn : ∀ i c v (u : Str → Option Value) h tk I oI, i < n → Inv i c → NeAll I (LedOf c) →
      Fr h₀ env.locals h (fun y => if y = x then some v else kstB (fun z => if stored.contains z then u z else m₀ z) (ps c) y) → News h₀ env.locals h ((I, oI) :: LedOf c) →
      wpAny (model prog w) A (execs body env) (LPost LedOf ps stored (Inv (i + 1)) h₀ env.locals x m₀ I oI { s with heap := h, toks := tk } Q) E { s with heap := h, toks := tk })
    (done : ∀ c (u : Str → Option Value) h tk, Inv n c → Fr h₀ env.locals h (fun y => if y = x then u y else kstB (fun z => if stored.contains z then u z else m₀ z) (ps c) y) → News h₀ env.locals h (LedOf c) → Q .next { s with heap := h, toks := tk }) :
    wpAny (model prog w) A (pyIter (.ref r)) (fun it s₂ => LoopAtV prog w A h₀ env x body Q E it s₂) E s := by
  refine wpAny_pyIter_range hr hsmall ?_
  have W : Walks prog w A s.heap.objs.size [s.heap.objs.size] [s.heap.objs.size] n (fun i v => i < n ∧ ∃ t, v = .int (0 + i * 1) t)
      (fun i h => IsRangeIter h s.heap.objs.size (0 + (i : Nat) * 1) ((n : Int) - (i : Nat)) 1) := (Walks.range hh _ 0 1 n).bound
  refine loopCore LedOf ps stored Inv c₀ W (fun _ _ st => ⟨_, st⟩) ?_ (next_is_new F) (fun b hb => .inl (List.mem_singleton.mp hb)) (by show IsRangeIter _ _ _ _ _; rw [hn]; simpa using Heap.get?_push_size _ rfl) (F.push _)
    (fun p hp => ⟨Heap.get?_push_of_some _ (N p hp).1, (N p hp).2⟩) (freshNe N) hk hp ?_ done
  · intro hm; exact absurd F.ns.lt ((List.mem_singleton.mp hm) ▸ Nat.lt_irrefl _)
  · rintro i c v u h tk oI hi _ hc hne F₁ N₁
    exact turn i c v u h tk _ oI hi hc hne F₁ N₁
end
section
open PySem.Float64
variable {prog : Program} {w : World} {A : Around} {E : Value → Shared → Prop} {s : Shared} {Q : Value → Shared → Prop} {x y z : UInt64} {t1 t2 t3 : Tok} {a b c M L : Int}
theorem lvlDiv (hL : In30 L) (h : ∀ x, FV x (L * 1024 * T) → Q (.float x s.toks) { s with toks := s.toks + 1 }) : wpAny (model prog w) A (binaryOp .Div (.int L t1) (.float cBig t2)) Q E s := by
  refine AutoFloatOps.truediv_if_2 ?_ (by decide +kernel) (h _ (level_fv (Int.le_of_lt hL.1) hL.2))
  obtain ⟨⟨sg, m, e, d⟩, _⟩ := ofInt_fv (Int.le_of_lt hL.1) (Int.lt_trans hL.2 (by decide))
  unfold isInf
  rw [d]
  exact Bool.false_ne_true
theorem backMul (hz : FV z (M * 1024 * T)) (hM : In30 M) (h : ∀ x, FV x (M * (2 ^ 1074 : Nat)) → Q (.float x s.toks) { s with toks := s.toks + 1 }) : wpAny (model prog w) A (binaryOp .Mult (.float z t1) (.float cBig t2)) Q E s :=
  AutoFloatOps.mul_0 (h _ (back_fv hz (Int.le_of_lt hM.1) hM.2))
theorem truncI (hz : FV z (M * (2 ^ 1074 : Nat))) (hM : In30 M) (h : Q (.int M s.toks) { s with toks := s.toks + 1 }) : wpAny (model prog w) A (call (.type "int") [.float z t1]) Q E s := by
  obtain ⟨a, m, e, d, ht⟩ := trunc_fv hz (Int.le_of_lt hM.1)
  exact call_int_float d (by rw [ht]; exact h)
theorem twoM (hM : In30 M) (h : Q (.int (2 * M) s.toks) { s with toks := s.toks + 1 }) : wpAny (model prog w) A (binaryOp .Mult (.int 2 t1) (.int M t2)) Q E s :=
  PyProof.Rows.mul_int h (IntMulOk.of_right (PySem.intBits_le_64 (by have := hM.1; omega) (by have := hM.2; omega)))
theorem ltF {u v : Int} (hx : FV x u) (hy : FV y v) (h : Q (.bool (decide (u < v))) s) : wpAny (model prog w) A (compareOp .Lt (.float x t1) (.float y t2)) Q E s :=
  AutoFloatOps.lt_0 (by rw [cmp_lt hx hy]; exact h)
theorem geF {u v : Int} (hx : FV x u) (hy : FV y v) (h : Q (.bool (decide (v ≤ u))) s) : wpAny (model prog w) A (compareOp .GtE (.float x t1) (.float y t2)) Q E s := by
  refine AutoFloatOps.ge_0 ?_
  rw [cmp_eq hx hy, cmp_fv hx hy]
  have e : (some (compare u v) == some Ordering.gt || decide (u = v)) = decide (v ≤ u) := by
    rcases Int.lt_trichotomy u v with q | q | q
    · rw [Int.compare_eq_lt.mpr q, decide_eq_false (by omega : ¬ u = v), decide_eq_false (by omega : ¬ v ≤ u)]; rfl
    · rw [decide_eq_true q, decide_eq_true (by omega : v ≤ u), Bool.or_true]
    · rw [Int.compare_eq_gt.mpr q, decide_eq_true (by omega : v ≤ u)]; rfl
  rw [e]; exact h
theorem add56 (h : Q (.float c56 s.toks) { s with toks := s.toks + 1 }) : wpAny (model prog w) A (binaryOp .Add (.float cHalf t1) (.float cTh t2)) Q E s :=
  AutoFloatOps.add_0 (sum56.symm ▸ h)
theorem addS {l : List Nat} {k : Nat} {y : Str} {t u : Tok} (hy : y = ⟨#[k]⟩) (hl : l.length ≤ 20) (h : ∀ t' tk, Q (.str ⟨(k :: l).toArray⟩ t') { s with toks := tk }) :
    wpAny (model prog w) A (binaryOp .Add (.str y u) (.str ⟨l.toArray⟩ t)) Q E s := by
  subst hy
  have e : (⟨#[k]⟩ : Str) ++ ⟨l.toArray⟩ = ⟨(k :: l).toArray⟩ := by
    refine Str.ext' (Array.toList_inj.mp ?_)
    simp [Str.cps_append]
  refine wpAny_mono (PyProof.Rows.add_str (E := E) (Q := Q) (fun t' tk => by rw [e]; exact h t' tk) ?_) (fun _ _ x => x) fun _ _ x => x
  rw [strLen, sizeLine_eq]
  show 1 + l.length ≤ _
  omega
end
/-- where the telling stands -/
structure ToldS where
  a : List Nat
  b : List Nat
  tx : Tok
  v : Value
  R : Led
structure ToldOk (w : World) (wd : List Nat) (f : Int × Int × Int) (R0 : Led) (i : Nat) (c : ToldS) : Prop where
  sub : ∀ q ∈ R0, q ∈ c.R
  ab : c.a ++ c.b = wd
  ln : i = c.b.length
  en : EntsE w c.R c.v (entOf c.a f)
theorem lev_in {wd a b : List Nat} {f : Int × Int × Int} (hf : LevOk [] 0 f) (hg : Good wd 12) (e : a ++ b = wd) : LevOk a a.length (lightN a f) ∧ a.length ≤ 12 ∧ b.length ≤ 12 ∧ ∀ k ∈ a, sgK k := by
  subst e
  have hs : ∀ k ∈ a, sgK k := fun k hk => hg.sg k (List.mem_append_left _ hk)
  have hd : NoDbl a := by
    intro i k h1 h2
    have l1 : i < a.length := (List.getElem?_eq_some_iff.mp h1).1
    have l2 : i + 1 < a.length := (List.getElem?_eq_some_iff.mp h2).1
    exact hg.dbl i k (by rw [List.getElem?_append_left l1]; exact h1) (by rw [List.getElem?_append_left l2]; exact h2)
  have := hg.len
  rw [List.length_append] at this
  exact ⟨lev_word hf a hd hs, by omega, by omega, hs⟩
theorem pow12 {n : Nat} (h : n ≤ 12) : (16 * 4 ^ n : Int) < 2 ^ 30 := by
  have : (4 ^ n : Int) ≤ 4 ^ 12 := by exact_mod_cast Nat.pow_le_pow_right (by decide : 0 < 4) h
  omega
theorem LevOk.in30 {w : List Nat} {n : Nat} {l : Int × Int × Int} (h : LevOk w n l) (hn : n ≤ 12) : In30 l.1 ∧ In30 l.2.1 ∧ In30 l.2.2 :=
  have := pow12 hn
  ⟨⟨h.p1, Int.lt_of_le_of_lt h.b1 this⟩, ⟨h.p2, Int.lt_of_le_of_lt h.b2 this⟩, ⟨h.p3, Int.lt_of_le_of_lt h.b3 this⟩⟩
theorem last_of {a : List Nat} (hs : ∀ k ∈ a, sgK k) : a = [] ∨ ∃ a' k, a = a' ++ [k] ∧ a.getLast? = some k ∧ sgK k := by
  rcases List.eq_nil_or_concat a with h | ⟨v, j, rfl⟩
  · exact .inl h
  · exact .inr ⟨v, j, by simp, by simp, hs j (by simp)⟩
theorem stop_nil {a : List Nat} {n : Nat} {l : Int × Int × Int} {M : Int} (h : LevOk a n l) (hs : ∀ k ∈ a, sgK k) (hM : IsMax M l.1 l.2.1 l.2.2) (hb : 2 * M ≤ l.1 + l.2.1 + l.2.2) : a = [] := by
  obtain ⟨_, m1, m2, m3⟩ := hM
  rcases last_of hs with e | ⟨a', k, _, e, hk⟩
  · exact e
  · rcases hk with rfl | rfl | rfl
    · have := h.r e; omega
    · have := h.g e; omega
    · have := h.b e; omega
/-- the sign that the hue tells -/
theorem go_last {a : List Nat} {n : Nat} {l : Int × Int × Int} {M u : Int} (h : LevOk a n l) (hs : ∀ k ∈ a, sgK k) (hM : IsMax M l.1 l.2.1 l.2.2) (hb : ¬ 2 * M ≤ l.1 + l.2.1 + l.2.2)
    (ur : l.2.1 < l.1 → l.2.2 < l.1 → u < SX ∨ C5 ≤ u) (ug : l.1 < l.2.1 → l.2.2 < l.2.1 → SX ≤ u ∧ u < HF) (ub : l.1 < l.2.2 → l.2.1 < l.2.2 → HF ≤ u ∧ u < C5) :
    ∃ a' k, a = a' ++ [k] ∧ ((k = 64 ∧ (u < SX ∨ C5 ≤ u)) ∨ (k = 94 ∧ SX ≤ u ∧ u < HF) ∨ (k = 126 ∧ HF ≤ u ∧ u < C5)) ∧ sgK k := by
  have p1 := h.p1
  have p2 := h.p2
  have p3 := h.p3
  rcases last_of hs with e | ⟨a', k, e', e, hk⟩
  · obtain ⟨m, _, _, _⟩ := hM
    have := h.e e
    rcases m with m | m | m <;> omega
  · refine ⟨a', k, e', ?_, hk⟩
    rcases hk with rfl | rfl | rfl
    · have := h.r e; exact .inl ⟨rfl, ur (by omega) (by omega)⟩
    · have := h.g e; exact .inr (.inl ⟨rfl, ug (by omega) (by omega)⟩)
    · have := h.b e; exact .inr (.inr ⟨rfl, ub (by omega) (by omega)⟩)
theorem ent_back {a' : List Nat} {k : Nat} {f : Int × Int × Int} (hk : sgK k) : turnE (placeOf k) (entOf (a' ++ [k]) f) = entOf a' f := by rw [ent_snoc hk, turn_turn]
theorem HF_C5 : HF ≤ C5 := by decide +kernel
theorem SX_HF : SX ≤ HF := by decide +kernel
theorem ent_ct {a : List Nat} {f : Int × Int × Int} : (entOf a f).1.ct = (lightN a f).1 ∧ (entOf a f).2.1.ct = (lightN a f).2.1 ∧ (entOf a f).2.2.ct = (lightN a f).2.2 := ⟨rfl, rfl, rfl⟩
theorem ToldOk.step {w : World} {wd a' b : List Nat} {k i : Nat} {f : Int × Int × Int} {tx tx' : Tok} {v v' : Value} {R R' R0 : Led} (h : ToldOk w wd f R0 i ⟨a' ++ [k], b, tx, v, R⟩) (hE : EntsE w R' v' (turnE (placeOf k) (entOf (a' ++ [k]) f))) (hk : sgK k) (hs : ∀ q ∈ R, q ∈ R') :
    ToldOk w wd f R0 (i + 1) ⟨a', k :: b, tx', v', R'⟩ :=
  ⟨fun q hq => hs q (h.sub q hq), by have := h.ab; simpa using this, by have := h.ln; dsimp only at this ⊢; simp [this], by dsimp only; rw [ent_back hk] at hE; exact hE⟩
theorem toldNext {w : World} {wd a b : List Nat} {k i : Nat} {f : Int × Int × Int} {e : E3} {tx t9 : Tok} {v r9 : Value} {R R9 R0 lit : Led} {h₀ h' : Heap} {L I : Addr} {oI : Obj} {x : Str} {m₀ m' : Str → Option Value} {stored : List Str} {tk' : Nat} {s₁ : Shared} {Q : Flow → Shared → Prop}
    (F : Fr h₀ L h' m') (N : News h₀ L h' (lit ++ R9)) (hok : ToldOk w wd f R0 i ⟨a, b, tx, v, R⟩) (hk : sgK k) (ha : ∃ a', a = a' ++ [k]) (he : entOf a f = e) (hE : EntsE w R9 r9 (turnE (placeOf k) e)) (sub : ∀ q ∈ R, q ∈ R9)
    (off : ∀ q ∈ R9, q ∈ R ∨ ∀ x ∈ lit, q.1 ≠ x.1) (hI : NeAll I R) (hm : (I, oI) ∈ lit) (h1 : m' (Str.ofString "text") = some (.str ⟨(k :: b).toArray⟩ t9)) (h2 : m' (Str.ofString "light") = some r9)
    (hr : ∀ z, z ≠ x → (∀ p ∈ [((Str.ofString "text"), Value.str ⟨(k :: b).toArray⟩ t9), ((Str.ofString "light"), r9)], z ≠ p.1) → stored.contains z = false → m' z = m₀ z) :
    LPost (fun c : ToldS => c.R) (fun c => [((Str.ofString "text"), .str ⟨c.b.toArray⟩ c.tx), ((Str.ofString "light"), c.v)]) stored (ToldOk w wd f R0 (i + 1)) h₀ L x m₀ I oI s₁ Q .next { s₁ with heap := h', toks := tk' } := by
  obtain ⟨a', rfl⟩ := ha
  subst he
  refine LPost.next ⟨a', k :: b, t9, r9, R9⟩ F N (List.forall_mem_cons.mpr ⟨List.mem_append_left _ hm, fun q hq => List.mem_append_right _ hq⟩) (NeAll.grow hI hm off) ?_ hr (hok.step hE hk sub)
  exact List.forall_mem_cons.mpr ⟨h1, List.forall_mem_cons.mpr ⟨h2, fun _ h => nomatch h⟩⟩
section
variable {a : List Nat} {n : Nat} {l : Int × Int × Int} {M u : Int} (h : LevOk a n l) (hs : ∀ k ∈ a, sgK k) (hM : IsMax M l.1 l.2.1 l.2.2) (hb : ¬ 2 * M ≤ l.1 + (l.2.1 + (l.2.2 + 0)))
    (ur : l.2.1 < l.1 → l.2.2 < l.1 → u < SX ∨ C5 ≤ u) (ug : l.1 < l.2.1 → l.2.2 < l.2.1 → SX ≤ u ∧ u < HF) (ub : l.1 < l.2.2 → l.2.1 < l.2.2 → HF ≤ u ∧ u < C5)
include h hs hM hb ur ug ub
theorem go64 (hu : u < SX ∨ C5 ≤ u) : ∃ a', a = a' ++ [64] := by
  obtain ⟨a', k, e, hk, _⟩ := go_last h hs hM (by omega) ur ug ub
  rcases hk with ⟨rfl, _⟩ | ⟨_, q⟩ | ⟨_, q⟩
  · exact ⟨a', e⟩
  · have := HF_C5; omega
  · have := SX_HF; omega
theorem go94 (h1 : ¬ u < SX) (h2 : ¬ C5 ≤ u) (h3 : u < HF) : ∃ a', a = a' ++ [94] := by
  obtain ⟨a', k, e, hk, _⟩ := go_last h hs hM (by omega) ur ug ub
  rcases hk with ⟨_, q⟩ | ⟨rfl, q⟩ | ⟨_, q⟩
  · omega
  · exact ⟨a', e⟩
  · omega
theorem go126 (h1 : ¬ u < SX) (h2 : ¬ C5 ≤ u) (h3 : ¬ u < HF) : ∃ a', a = a' ++ [126] := by
  obtain ⟨a', k, e, hk, _⟩ := go_last h hs hM (by omega) ur ug ub
  rcases hk with ⟨_, q⟩ | ⟨_, q⟩ | ⟨rfl, q⟩
  · omega
  · omega
  · exact ⟨a', e⟩
end
end Mine
end

section
open PySem PySem.W PyProof.Rows
set_option Elab.async false
set_option maxRecDepth 100000
set_option maxHeartbeats 8000000
namespace Mine
section
theorem told_does (w : World) (mean : ExcName → Option Value) (mg mb : Str → Option Value) (v0 : Value) (R0 : Led) (wd : List Nat) (f : Int × Int × Int) (hg : Good wd 12) (hf : LevOk [] 0 f) (hE : EntsE w R0 v0 (entOf wd f)) :
    DoesW w mean mg mb 209 [v0] R0 12
      (fun tl r => ∃ t n tx v', r = .ref t ∧ (t, tupOf [.str ⟨wd.toArray⟩ tx, v'] n) ∈ tl ∧ EntsE w tl v' (entOf [] f)) := by
  unfold DoesW
  k_fill
  intro dp un gd cn cs a ccd cl outer A₀ base h₀ L m news s Q E B F X N T hk hex hd hu hret
  have hfull := N
  have hN : News h₀ L s.heap _ := fun p hp => N p (hex p hp)
  clear N
  refine wpAny_call ?_
  k_dflt (refine' enterP (binds := [(Str.ofString "entries", v0)]) ?k1 ?k2 ?k3 hN ?k5 ?kA ?kF ?kK ?k6 ?k7 ?k8 ?k9 ?kB ?_ ?c2 ?c3 ?c4 ?c5; (case kA => exact rfl); (case kF => exact rfl); (case kK => assumption); (case k1 => k_asm); (case k2 => k_asm); (case k3 => k_asm); (case k5 => k_asm); (case k6 => k_is); (case k7 => k_is); (case k8 => ktr_room); (case k9 => first | exact BindsTo.of_eq rfl | exact binds_K (by k_in) rfl (by k_is) rfl rfl rfl); (case c5 => decide); (case kB => exact locs rfl); (case c2 => exact rfl); (case c3 => exact rfl); (case c4 => exact rfl); k_whole; intro g' L' h' tk' hg' FG' F' N' B' X' T' l1; (try dsimp only); (try k_fold))
  (try k_lt l1)
  repeat' (first | (k_unfold; (try dsimp only)) | (k_end; wrow_close) | ((with_reducible show wpAny _ _ (exec (Stmt.For (PySem.Expr.Name _ _) (PySem.Expr.Call _ _ _ _) (_ :: _) [] _) _) _ _ _); (with_reducible (k_here; refine Halt.out ?_)); (first | (with_reducible show wpAny _ _ (subscriptTail _ _ _ (Value.ref _)) _ _ _) | (with_reducible show wpAny _ _ (setItem _ (Value.ref _) _) _ _ _) | dsimp only | skip)) | ((with_reducible show wpAny _ _ (binaryOp Operator.Add (Value.str _ _) (Value.str _ _)) _ _ _); (with_reducible (k_here; with_unfolding_all (first | refine addS (k := 64) rfl (by assumption) ?_ | refine addS (k := 94) rfl (by assumption) ?_ | refine addS (k := 126) rfl (by assumption) ?_); intro t9 k9)); (first | (with_reducible show wpAny _ _ (subscriptTail _ _ _ (Value.ref _)) _ _ _) | (with_reducible show wpAny _ _ (setItem _ (Value.ref _) _) _ _ _) | dsimp only | skip)) | ((with_reducible show wpAny _ _ (binaryOp Operator.Add (Value.float _ _) (Value.float _ _)) _ _ _); (with_reducible (k_here; with_unfolding_all (refine add56 ?_))); (first | (with_reducible show wpAny _ _ (subscriptTail _ _ _ (Value.ref _)) _ _ _) | (with_reducible show wpAny _ _ (setItem _ (Value.ref _) _) _ _ _) | dsimp only | skip)) | ((with_reducible show wpAny _ _ (compareOp CmpOp.GtE (Value.float _ _) (Value.float _ _)) _ _ _); (with_reducible (k_here; with_unfolding_all (refine geF (by assumption) f56 ?_))); (first | (with_reducible show wpAny _ _ (subscriptTail _ _ _ (Value.ref _)) _ _ _) | (with_reducible show wpAny _ _ (setItem _ (Value.ref _) _) _ _ _) | dsimp only | skip)) | ((with_reducible show wpAny _ _ (compareOp CmpOp.Lt (Value.float _ _) (Value.float _ _)) _ _ _); (with_reducible (k_here; with_unfolding_all (first | refine ltF (by assumption) fSx ?_ | refine ltF (by assumption) fHalf ?_))); (first | (with_reducible show wpAny _ _ (subscriptTail _ _ _ (Value.ref _)) _ _ _) | (with_reducible show wpAny _ _ (setItem _ (Value.ref _) _) _ _ _) | dsimp only | skip)) | ((with_reducible show wpAny _ _ (binaryOp Operator.Mult (Value.int _ _) (Value.int _ _)) _ _ _); (with_reducible (k_here; with_unfolding_all (refine twoM (by assumption) ?_))); (first | (with_reducible show wpAny _ _ (subscriptTail _ _ _ (Value.ref _)) _ _ _) | (with_reducible show wpAny _ _ (setItem _ (Value.ref _) _) _ _ _) | dsimp only | skip)) | ((with_reducible show wpAny _ _ (binaryOp Operator.Mult (Value.float _ _) (Value.float _ _)) _ _ _); (with_reducible (k_here; with_unfolding_all (refine backMul (by assumption) (by assumption) ?_); intro x9 f9)); (first | (with_reducible show wpAny _ _ (subscriptTail _ _ _ (Value.ref _)) _ _ _) | (with_reducible show wpAny _ _ (setItem _ (Value.ref _) _) _ _ _) | dsimp only | skip)) | ((with_reducible show wpAny _ _ (binaryOp Operator.Div (Value.int _ _) (Value.float _ _)) _ _ _); (with_reducible (k_here; with_unfolding_all (refine lvlDiv (by assumption) ?_); intro x9 f9)); (first | (with_reducible show wpAny _ _ (subscriptTail _ _ _ (Value.ref _)) _ _ _) | (with_reducible show wpAny _ _ (setItem _ (Value.ref _) _) _ _ _) | dsimp only | skip)) | ((with_reducible show wpAny _ _ (call (Value.ref _) _) _ _ _); (with_reducible (k_here; (with_reducible show wpAny _ _ (call (Value.ref 28) _) _ _ _); with_unfolding_all ( refine' Does.use (rgb_does _ _ _ _ _ _ _ _ _ _ _ _ _ ?zqf1 ?zqf2 ?zqf3 ?zqb1 ?zqb2 ?zqb3) ?zqk1 ?zqk2 ?zqk3 ?zqk4 ?zqk5 ?zqk6 ?zqk7 ?zqk8 ?zqk9 ?_; (case zqk1 => k_asm); (case zqk2 => k_asm); (case zqk3 => k_asm); (case zqk4 => k_asm); (case zqk5 => k_asm); (case zqk6 => first | exact rfl | assumption); (case zqk7 => (repeat' (first | exact List.forall_mem_nil _ | refine List.forall_mem_cons.mpr ⟨by k_mem, ?_⟩))); (case zqf1 => assumption); (case zqf2 => assumption); (case zqf3 => assumption); (case zqb1 => assumption); (case zqb2 => assumption); (case zqb3 => assumption); (case zqk8 => ktr_room); (case zqk9 => ktr_units); intro r9 tl9 h9 tk9 F9 N9 hl9 ho9; obtain ⟨t9, n9, x9, y9, z9, u1, u2, u3, M9, e9, hm9, ⟨u9, fu9, ur9, ug9, ub9⟩, fz9, hM9⟩ := ho9; subst e9; (have l9 := apartOf hl9 hm9); (replace N9 := newsPick (less := (t9, _) :: _) N9 (List.forall_mem_cons.mpr ⟨List.mem_append_left _ hm9, fun _ h => List.mem_append_right _ h⟩)); clear hl9 hm9; (have i9 := max_in hM9 (by assumption) (by assumption) (by assumption)); (try dsimp only); (try k_fold)))); (first | (with_reducible show wpAny _ _ (subscriptTail _ _ _ (Value.ref _)) _ _ _) | (with_reducible show wpAny _ _ (setItem _ (Value.ref _) _) _ _ _) | dsimp only | skip)) | ((with_reducible show wpAny _ _ (call (Value.ref _) _) _ _ _); (with_reducible (k_here; (with_reducible show wpAny _ _ (call (Value.ref 197) _) _ _ _); with_unfolding_all ( refine' turned_open (lit := [_, _, _, _, _, _, _]) ?zqh1 ?zqh2 ?zqh3 ?zqh4 ?zqh5 ?zqh6 ?zqh7 ?zqh8 ?zqh9 ?zqh10 ?_; (case zqh1 => assumption); (case zqh2 => decide); (case zqh3 => k_asm); (case zqh4 => k_asm); (case zqh5 => k_asm); (case zqh6 => k_asm); (case zqh7 => k_asm); (case zqh8 => first | exact rfl | assumption); (case zqh9 => ktr_room); (case zqh10 => ktr_units); intro r9 R9 h9 tk9 F9 N9 sub9 off9 E9; (try dsimp only [List.cons_append, List.nil_append] at N9)))); (first | (with_reducible show wpAny _ _ (subscriptTail _ _ _ (Value.ref _)) _ _ _) | (with_reducible show wpAny _ _ (setItem _ (Value.ref _) _) _ _ _) | dsimp only | skip)) | ((with_reducible show wpAny _ _ (pyIter (Value.ref _)) _ _ _); (with_reducible (k_here; (rename IsRange _ _ _ _ _ _ _ _ => rgX); refine Halt.out ?_)); (first | (with_reducible show wpAny _ _ (subscriptTail _ _ _ (Value.ref _)) _ _ _) | (with_reducible show wpAny _ _ (setItem _ (Value.ref _) _) _ _ _) | dsimp only | skip)) | ((with_reducible show wpAny _ _ (call (Value.type "int") _) _ _ _); (with_reducible (k_here; with_unfolding_all (refine truncI (by assumption) (by assumption) ?_))); (first | (with_reducible show wpAny _ _ (subscriptTail _ _ _ (Value.ref _)) _ _ _) | (with_reducible show wpAny _ _ (setItem _ (Value.ref _) _) _ _ _) | dsimp only | skip)) | ((with_reducible show LCg.CompEnd _ _ _ _ _ _ _ _ _ _ _ _ _ _); ((refine LCg.CompEnd.intro (by assumption) (by assumption) _ (fun p hp => hp) (by assumption) (by lcg_src) ?_)); (first | (with_reducible show wpAny _ _ (subscriptTail _ _ _ (Value.ref _)) _ _ _) | (with_reducible show wpAny _ _ (setItem _ (Value.ref _) _) _ _ _) | dsimp only | skip)) | (walk1; (first | (with_reducible show wpAny _ _ (subscriptTail _ _ _ (Value.ref _)) _ _ _) | (with_reducible show wpAny _ _ (setItem _ (Value.ref _) _) _ _ _) | dsimp only | skip)) | (dsimp only; walk1) | (leave1; (try dsimp only)) | fail "no step")
  refine Halt.go ?_
  rename News _ _ _ _ => N2
  rename Fr _ _ _ _ => F2
  with_unfolding_all refine' For_invVF F2 ?k1 ?k2 ?_
  (case k1 => exact rfl)
  (case k2 => exact rfl)
  k_whole
  repeat' (first | (k_unfold; (try dsimp only)) | (k_end; wrow_close) | ((with_reducible show wpAny _ _ (exec (Stmt.For (PySem.Expr.Name _ _) (PySem.Expr.Call _ _ _ _) (_ :: _) [] _) _) _ _ _); (with_reducible (k_here; refine Halt.out ?_)); (first | (with_reducible show wpAny _ _ (subscriptTail _ _ _ (Value.ref _)) _ _ _) | (with_reducible show wpAny _ _ (setItem _ (Value.ref _) _) _ _ _) | dsimp only | skip)) | ((with_reducible show wpAny _ _ (binaryOp Operator.Add (Value.str _ _) (Value.str _ _)) _ _ _); (with_reducible (k_here; with_unfolding_all (first | refine addS (k := 64) rfl (by assumption) ?_ | refine addS (k := 94) rfl (by assumption) ?_ | refine addS (k := 126) rfl (by assumption) ?_); intro t9 k9)); (first | (with_reducible show wpAny _ _ (subscriptTail _ _ _ (Value.ref _)) _ _ _) | (with_reducible show wpAny _ _ (setItem _ (Value.ref _) _) _ _ _) | dsimp only | skip)) | ((with_reducible show wpAny _ _ (binaryOp Operator.Add (Value.float _ _) (Value.float _ _)) _ _ _); (with_reducible (k_here; with_unfolding_all (refine add56 ?_))); (first | (with_reducible show wpAny _ _ (subscriptTail _ _ _ (Value.ref _)) _ _ _) | (with_reducible show wpAny _ _ (setItem _ (Value.ref _) _) _ _ _) | dsimp only | skip)) | ((with_reducible show wpAny _ _ (compareOp CmpOp.GtE (Value.float _ _) (Value.float _ _)) _ _ _); (with_reducible (k_here; with_unfolding_all (refine geF (by assumption) f56 ?_))); (first | (with_reducible show wpAny _ _ (subscriptTail _ _ _ (Value.ref _)) _ _ _) | (with_reducible show wpAny _ _ (setItem _ (Value.ref _) _) _ _ _) | dsimp only | skip)) | ((with_reducible show wpAny _ _ (compareOp CmpOp.Lt (Value.float _ _) (Value.float _ _)) _ _ _); (with_reducible (k_here; with_unfolding_all (first | refine ltF (by assumption) fSx ?_ | refine ltF (by assumption) fHalf ?_))); (first | (with_reducible show wpAny _ _ (subscriptTail _ _ _ (Value.ref _)) _ _ _) | (with_reducible show wpAny _ _ (setItem _ (Value.ref _) _) _ _ _) | dsimp only | skip)) | ((with_reducible show wpAny _ _ (binaryOp Operator.Mult (Value.int _ _) (Value.int _ _)) _ _ _); (with_reducible (k_here; with_unfolding_all (refine twoM (by assumption) ?_))); (first | (with_reducible show wpAny _ _ (subscriptTail _ _ _ (Value.ref _)) _ _ _) | (with_reducible show wpAny _ _ (setItem _ (Value.ref _) _) _ _ _) | dsimp only | skip)) | ((with_reducible show wpAny _ _ (binaryOp Operator.Mult (Value.float _ _) (Value.float _ _)) _ _ _); (with_reducible (k_here; with_unfolding_all (refine backMul (by assumption) (by assumption) ?_); intro x9 f9)); (first | (with_reducible show wpAny _ _ (subscriptTail _ _ _ (Value.ref _)) _ _ _) | (with_reducible show wpAny _ _ (setItem _ (Value.ref _) _) _ _ _) | dsimp only | skip)) | ((with_reducible show wpAny _ _ (binaryOp Operator.Div (Value.int _ _) (Value.float _ _)) _ _ _); (with_reducible (k_here; with_unfolding_all (refine lvlDiv (by assumption) ?_); intro x9 f9)); (first | (with_reducible show wpAny _ _ (subscriptTail _ _ _ (Value.ref _)) _ _ _) | (with_reducible show wpAny _ _ (setItem _ (Value.ref _) _) _ _ _) | dsimp only | skip)) | ((with_reducible show wpAny _ _ (call (Value.ref _) _) _ _ _); (with_reducible (k_here; (with_reducible show wpAny _ _ (call (Value.ref 28) _) _ _ _); with_unfolding_all ( refine' Does.use (rgb_does _ _ _ _ _ _ _ _ _ _ _ _ _ ?zqf1 ?zqf2 ?zqf3 ?zqb1 ?zqb2 ?zqb3) ?zqk1 ?zqk2 ?zqk3 ?zqk4 ?zqk5 ?zqk6 ?zqk7 ?zqk8 ?zqk9 ?_; (case zqk1 => k_asm); (case zqk2 => k_asm); (case zqk3 => k_asm); (case zqk4 => k_asm); (case zqk5 => k_asm); (case zqk6 => first | exact rfl | assumption); (case zqk7 => (repeat' (first | exact List.forall_mem_nil _ | refine List.forall_mem_cons.mpr ⟨by k_mem, ?_⟩))); (case zqf1 => assumption); (case zqf2 => assumption); (case zqf3 => assumption); (case zqb1 => assumption); (case zqb2 => assumption); (case zqb3 => assumption); (case zqk8 => ktr_room); (case zqk9 => ktr_units); intro r9 tl9 h9 tk9 F9 N9 hl9 ho9; obtain ⟨t9, n9, x9, y9, z9, u1, u2, u3, M9, e9, hm9, ⟨u9, fu9, ur9, ug9, ub9⟩, fz9, hM9⟩ := ho9; subst e9; (have l9 := apartOf hl9 hm9); (replace N9 := newsPick (less := (t9, _) :: _) N9 (List.forall_mem_cons.mpr ⟨List.mem_append_left _ hm9, fun _ h => List.mem_append_right _ h⟩)); clear hl9 hm9; (have i9 := max_in hM9 (by assumption) (by assumption) (by assumption)); (try dsimp only); (try k_fold)))); (first | (with_reducible show wpAny _ _ (subscriptTail _ _ _ (Value.ref _)) _ _ _) | (with_reducible show wpAny _ _ (setItem _ (Value.ref _) _) _ _ _) | dsimp only | skip)) | ((with_reducible show wpAny _ _ (call (Value.ref _) _) _ _ _); (with_reducible (k_here; (with_reducible show wpAny _ _ (call (Value.ref 197) _) _ _ _); with_unfolding_all ( refine' turned_open (lit := [_, _, _, _, _, _, _]) ?zqh1 ?zqh2 ?zqh3 ?zqh4 ?zqh5 ?zqh6 ?zqh7 ?zqh8 ?zqh9 ?zqh10 ?_; (case zqh1 => assumption); (case zqh2 => decide); (case zqh3 => k_asm); (case zqh4 => k_asm); (case zqh5 => k_asm); (case zqh6 => k_asm); (case zqh7 => k_asm); (case zqh8 => first | exact rfl | assumption); (case zqh9 => ktr_room); (case zqh10 => ktr_units); intro r9 R9 h9 tk9 F9 N9 sub9 off9 E9; (try dsimp only [List.cons_append, List.nil_append] at N9)))); (first | (with_reducible show wpAny _ _ (subscriptTail _ _ _ (Value.ref _)) _ _ _) | (with_reducible show wpAny _ _ (setItem _ (Value.ref _) _) _ _ _) | dsimp only | skip)) | ((with_reducible show wpAny _ _ (pyIter (Value.ref _)) _ _ _); (with_reducible (k_here; (rename IsRange _ _ _ _ _ _ _ _ => rgX); refine Halt.out ?_)); (first | (with_reducible show wpAny _ _ (subscriptTail _ _ _ (Value.ref _)) _ _ _) | (with_reducible show wpAny _ _ (setItem _ (Value.ref _) _) _ _ _) | dsimp only | skip)) | ((with_reducible show wpAny _ _ (call (Value.type "int") _) _ _ _); (with_reducible (k_here; with_unfolding_all (refine truncI (by assumption) (by assumption) ?_))); (first | (with_reducible show wpAny _ _ (subscriptTail _ _ _ (Value.ref _)) _ _ _) | (with_reducible show wpAny _ _ (setItem _ (Value.ref _) _) _ _ _) | dsimp only | skip)) | ((with_reducible show LCg.CompEnd _ _ _ _ _ _ _ _ _ _ _ _ _ _); ((refine LCg.CompEnd.intro (by assumption) (by assumption) _ (fun p hp => hp) (by assumption) (by lcg_src) ?_)); (first | (with_reducible show wpAny _ _ (subscriptTail _ _ _ (Value.ref _)) _ _ _) | (with_reducible show wpAny _ _ (setItem _ (Value.ref _) _) _ _ _) | dsimp only | skip)) | (walk1; (first | (with_reducible show wpAny _ _ (subscriptTail _ _ _ (Value.ref _)) _ _ _) | (with_reducible show wpAny _ _ (setItem _ (Value.ref _) _) _ _ _) | dsimp only | skip)) | (dsimp only; walk1) | (leave1; (try dsimp only)) | fail "no step")
  refine Halt.go ?_
  skip
  rename IsRange _ _ _ _ _ _ _ _ => rgX
  rename News _ _ _ _ => N2
  rename Fr _ _ _ _ => F2
  with_unfolding_all refine' loopRange (n := 14) (fun c : ToldS => c.R) (fun c => [(Str.ofString "text", .str ⟨c.b.toArray⟩ c.tx), (Str.ofString "light", c.v)]) [Str.ofString "levels", Str.ofString "hue", Str.ofString "share", Str.ofString "value", Str.ofString "c"] (fun i c => ToldOk w wd f R0 i c) ⟨wd, [], tk', v0, R0⟩ ?hh rgX ?sm ?sn F2 ?hN ?hk ?hp ?turn ?done
  case hh => rfl
  case sm => decide
  case sn => decide
  case hN => assumption
  case hk => with_unfolding_all exact List.forall_mem_cons.mpr ⟨rfl, List.forall_mem_cons.mpr ⟨rfl, fun _ h => nomatch h⟩⟩
  case hp => exact ⟨fun _ h => h, List.append_nil _, rfl, hE⟩
  case done =>
    intro c u h tk hok F3 N3
    exfalso
    have h1 := hg.len
    have h2 := hok.ln
    rw [← hok.ab, List.length_append] at h1
    omega
  case turn =>
    clear rgX F2 N2
    intro i c v u h tk I oI hi hok hI F2 N2
    obtain ⟨a, b, tx, v, R⟩ := c
    dsimp only [kstB] at hI F2 N2
    obtain ⟨hlev, ha, hb, hs⟩ := lev_in hf hg hok.ab
    obtain ⟨b1, b2, b3⟩ := hlev.in30 ha
    have hEn := hok.en
    dsimp only at hEn ha hb hs
    replace hlev : LevOk a a.length ((entOf a f).1.ct, (entOf a f).2.1.ct, (entOf a f).2.2.ct) := hlev
    replace b1 : In30 (entOf a f).1.ct := b1
    replace b2 : In30 (entOf a f).2.1.ct := b2
    replace b3 : In30 (entOf a f).2.2.ct := b3
    generalize he : entOf a f = e at hEn hlev b1 b2 b3
    obtain ⟨l, n, w0, w1, w2, rfl, hl, E0, E1, E2⟩ := id hEn
    obtain ⟨t0, d0, o0, n0, p1, p2, p3, p4, rfl, m0, md0, s0, D0⟩ := E0
    obtain ⟨t1, d1, o1, n1, q1, q2, q3, q4, rfl, m1, md1, s1, D1⟩ := E1
    obtain ⟨t2, d2, o2, n2, r1, r2, r3, r4, rfl, m2, md2, s2, D2⟩ := E2
    clear D0 D1 D2 s0 s1 s2 md0 md1 md2
    replace N2 := newsPick (less := (l, listOf [.ref t0, .ref t1, .ref t2].toArray n) :: (t0, _) :: (t1, _) :: (t2, _) :: (I, oI) :: R) N2 (List.forall_mem_cons.mpr ⟨List.Mem.tail _ hl, List.forall_mem_cons.mpr ⟨List.Mem.tail _ m0, List.forall_mem_cons.mpr ⟨List.Mem.tail _ m1, List.forall_mem_cons.mpr ⟨List.Mem.tail _ m2, fun _ h => h⟩⟩⟩⟩)
    clear hl m0 m1 m2
    have hb20 : b.length ≤ 20 := Nat.le_trans hb (by decide)
    repeat' (first | (k_unfold; (try dsimp only)) | (k_end; wrow_close) | ((with_reducible show wpAny _ _ (exec (Stmt.For (PySem.Expr.Name _ _) (PySem.Expr.Call _ _ _ _) (_ :: _) [] _) _) _ _ _); (with_reducible (k_here; refine Halt.out ?_)); (first | (with_reducible show wpAny _ _ (subscriptTail _ _ _ (Value.ref _)) _ _ _) | (with_reducible show wpAny _ _ (setItem _ (Value.ref _) _) _ _ _) | dsimp only | skip)) | ((with_reducible show wpAny _ _ (binaryOp Operator.Add (Value.str _ _) (Value.str _ _)) _ _ _); (with_reducible (k_here; with_unfolding_all (first | refine addS (k := 64) rfl (by assumption) ?_ | refine addS (k := 94) rfl (by assumption) ?_ | refine addS (k := 126) rfl (by assumption) ?_); intro t9 k9)); (first | (with_reducible show wpAny _ _ (subscriptTail _ _ _ (Value.ref _)) _ _ _) | (with_reducible show wpAny _ _ (setItem _ (Value.ref _) _) _ _ _) | dsimp only | skip)) | ((with_reducible show wpAny _ _ (binaryOp Operator.Add (Value.float _ _) (Value.float _ _)) _ _ _); (with_reducible (k_here; with_unfolding_all (refine add56 ?_))); (first | (with_reducible show wpAny _ _ (subscriptTail _ _ _ (Value.ref _)) _ _ _) | (with_reducible show wpAny _ _ (setItem _ (Value.ref _) _) _ _ _) | dsimp only | skip)) | ((with_reducible show wpAny _ _ (compareOp CmpOp.GtE (Value.float _ _) (Value.float _ _)) _ _ _); (with_reducible (k_here; with_unfolding_all (refine geF (by assumption) f56 ?_))); (first | (with_reducible show wpAny _ _ (subscriptTail _ _ _ (Value.ref _)) _ _ _) | (with_reducible show wpAny _ _ (setItem _ (Value.ref _) _) _ _ _) | dsimp only | skip)) | ((with_reducible show wpAny _ _ (compareOp CmpOp.Lt (Value.float _ _) (Value.float _ _)) _ _ _); (with_reducible (k_here; with_unfolding_all (first | refine ltF (by assumption) fSx ?_ | refine ltF (by assumption) fHalf ?_))); (first | (with_reducible show wpAny _ _ (subscriptTail _ _ _ (Value.ref _)) _ _ _) | (with_reducible show wpAny _ _ (setItem _ (Value.ref _) _) _ _ _) | dsimp only | skip)) | ((with_reducible show wpAny _ _ (binaryOp Operator.Mult (Value.int _ _) (Value.int _ _)) _ _ _); (with_reducible (k_here; with_unfolding_all (refine twoM (by assumption) ?_))); (first | (with_reducible show wpAny _ _ (subscriptTail _ _ _ (Value.ref _)) _ _ _) | (with_reducible show wpAny _ _ (setItem _ (Value.ref _) _) _ _ _) | dsimp only | skip)) | ((with_reducible show wpAny _ _ (binaryOp Operator.Mult (Value.float _ _) (Value.float _ _)) _ _ _); (with_reducible (k_here; with_unfolding_all (refine backMul (by assumption) (by assumption) ?_); intro x9 f9)); (first | (with_reducible show wpAny _ _ (subscriptTail _ _ _ (Value.ref _)) _ _ _) | (with_reducible show wpAny _ _ (setItem _ (Value.ref _) _) _ _ _) | dsimp only | skip)) | ((with_reducible show wpAny _ _ (binaryOp Operator.Div (Value.int _ _) (Value.float _ _)) _ _ _); (with_reducible (k_here; with_unfolding_all (refine lvlDiv (by assumption) ?_); intro x9 f9)); (first | (with_reducible show wpAny _ _ (subscriptTail _ _ _ (Value.ref _)) _ _ _) | (with_reducible show wpAny _ _ (setItem _ (Value.ref _) _) _ _ _) | dsimp only | skip)) | ((with_reducible show wpAny _ _ (call (Value.ref _) _) _ _ _); (with_reducible (k_here; (with_reducible show wpAny _ _ (call (Value.ref 28) _) _ _ _); with_unfolding_all ( refine' Does.use (rgb_does _ _ _ _ _ _ _ _ _ _ _ _ _ ?zqf1 ?zqf2 ?zqf3 ?zqb1 ?zqb2 ?zqb3) ?zqk1 ?zqk2 ?zqk3 ?zqk4 ?zqk5 ?zqk6 ?zqk7 ?zqk8 ?zqk9 ?_; (case zqk1 => k_asm); (case zqk2 => k_asm); (case zqk3 => k_asm); (case zqk4 => k_asm); (case zqk5 => k_asm); (case zqk6 => first | exact rfl | assumption); (case zqk7 => (repeat' (first | exact List.forall_mem_nil _ | refine List.forall_mem_cons.mpr ⟨by k_mem, ?_⟩))); (case zqf1 => assumption); (case zqf2 => assumption); (case zqf3 => assumption); (case zqb1 => assumption); (case zqb2 => assumption); (case zqb3 => assumption); (case zqk8 => ktr_room); (case zqk9 => ktr_units); intro r9 tl9 h9 tk9 F9 N9 hl9 ho9; obtain ⟨t9, n9, x9, y9, z9, u1, u2, u3, M9, e9, hm9, ⟨u9, fu9, ur9, ug9, ub9⟩, fz9, hM9⟩ := ho9; subst e9; (have l9 := apartOf hl9 hm9); (replace N9 := newsPick (less := (t9, _) :: _) N9 (List.forall_mem_cons.mpr ⟨List.mem_append_left _ hm9, fun _ h => List.mem_append_right _ h⟩)); clear hl9 hm9; (have i9 := max_in hM9 (by assumption) (by assumption) (by assumption)); (try dsimp only); (try k_fold)))); (first | (with_reducible show wpAny _ _ (subscriptTail _ _ _ (Value.ref _)) _ _ _) | (with_reducible show wpAny _ _ (setItem _ (Value.ref _) _) _ _ _) | dsimp only | skip)) | ((with_reducible show wpAny _ _ (call (Value.ref _) _) _ _ _); (with_reducible (k_here; (with_reducible show wpAny _ _ (call (Value.ref 197) _) _ _ _); with_unfolding_all ( refine' turned_open (lit := [_, _, _, _, _, _, _]) ?zqh1 ?zqh2 ?zqh3 ?zqh4 ?zqh5 ?zqh6 ?zqh7 ?zqh8 ?zqh9 ?zqh10 ?_; (case zqh1 => assumption); (case zqh2 => decide); (case zqh3 => k_asm); (case zqh4 => k_asm); (case zqh5 => k_asm); (case zqh6 => k_asm); (case zqh7 => k_asm); (case zqh8 => first | exact rfl | assumption); (case zqh9 => ktr_room); (case zqh10 => ktr_units); intro r9 R9 h9 tk9 F9 N9 sub9 off9 E9; (try dsimp only [List.cons_append, List.nil_append] at N9)))); (first | (with_reducible show wpAny _ _ (subscriptTail _ _ _ (Value.ref _)) _ _ _) | (with_reducible show wpAny _ _ (setItem _ (Value.ref _) _) _ _ _) | dsimp only | skip)) | ((with_reducible show wpAny _ _ (pyIter (Value.ref _)) _ _ _); (with_reducible (k_here; (rename IsRange _ _ _ _ _ _ _ _ => rgX); refine Halt.out ?_)); (first | (with_reducible show wpAny _ _ (subscriptTail _ _ _ (Value.ref _)) _ _ _) | (with_reducible show wpAny _ _ (setItem _ (Value.ref _) _) _ _ _) | dsimp only | skip)) | ((with_reducible show wpAny _ _ (call (Value.type "int") _) _ _ _); (with_reducible (k_here; with_unfolding_all (refine truncI (by assumption) (by assumption) ?_))); (first | (with_reducible show wpAny _ _ (subscriptTail _ _ _ (Value.ref _)) _ _ _) | (with_reducible show wpAny _ _ (setItem _ (Value.ref _) _) _ _ _) | dsimp only | skip)) | ((with_reducible show LCg.CompEnd _ _ _ _ _ _ _ _ _ _ _ _ _ _); ((refine LCg.CompEnd.intro (by assumption) (by assumption) _ (fun p hp => hp) (by assumption) (by lcg_src) ?_)); (first | (with_reducible show wpAny _ _ (subscriptTail _ _ _ (Value.ref _)) _ _ _) | (with_reducible show wpAny _ _ (setItem _ (Value.ref _) _) _ _ _) | dsimp only | skip)) | (walk1; (first | (with_reducible show wpAny _ _ (subscriptTail _ _ _ (Value.ref _)) _ _ _) | (with_reducible show wpAny _ _ (setItem _ (Value.ref _) _) _ _ _) | dsimp only | skip)) | (dsimp only; walk1) | (leave1; (try dsimp only)) | fail "no step")
    · refine LPost.brk ?_
      rename IsMax _ _ _ _ => hM
      have ha0 : a = [] := stop_nil hlev hs hM (by dsimp only; omega)
      subst ha0
      have hbw : b = wd := by have := hok.ab; simpa using this
      subst hbw
      subst he
      repeat' (first | (k_unfold; (try dsimp only)) | (k_end; wrow_close) | ((with_reducible show wpAny _ _ (exec (Stmt.For (PySem.Expr.Name _ _) (PySem.Expr.Call _ _ _ _) (_ :: _) [] _) _) _ _ _); (with_reducible (k_here; refine Halt.out ?_)); (first | (with_reducible show wpAny _ _ (subscriptTail _ _ _ (Value.ref _)) _ _ _) | (with_reducible show wpAny _ _ (setItem _ (Value.ref _) _) _ _ _) | dsimp only | skip)) | ((with_reducible show wpAny _ _ (binaryOp Operator.Add (Value.str _ _) (Value.str _ _)) _ _ _); (with_reducible (k_here; with_unfolding_all (first | refine addS (k := 64) rfl (by assumption) ?_ | refine addS (k := 94) rfl (by assumption) ?_ | refine addS (k := 126) rfl (by assumption) ?_); intro t9 k9)); (first | (with_reducible show wpAny _ _ (subscriptTail _ _ _ (Value.ref _)) _ _ _) | (with_reducible show wpAny _ _ (setItem _ (Value.ref _) _) _ _ _) | dsimp only | skip)) | ((with_reducible show wpAny _ _ (binaryOp Operator.Add (Value.float _ _) (Value.float _ _)) _ _ _); (with_reducible (k_here; with_unfolding_all (refine add56 ?_))); (first | (with_reducible show wpAny _ _ (subscriptTail _ _ _ (Value.ref _)) _ _ _) | (with_reducible show wpAny _ _ (setItem _ (Value.ref _) _) _ _ _) | dsimp only | skip)) | ((with_reducible show wpAny _ _ (compareOp CmpOp.GtE (Value.float _ _) (Value.float _ _)) _ _ _); (with_reducible (k_here; with_unfolding_all (refine geF (by assumption) f56 ?_))); (first | (with_reducible show wpAny _ _ (subscriptTail _ _ _ (Value.ref _)) _ _ _) | (with_reducible show wpAny _ _ (setItem _ (Value.ref _) _) _ _ _) | dsimp only | skip)) | ((with_reducible show wpAny _ _ (compareOp CmpOp.Lt (Value.float _ _) (Value.float _ _)) _ _ _); (with_reducible (k_here; with_unfolding_all (first | refine ltF (by assumption) fSx ?_ | refine ltF (by assumption) fHalf ?_))); (first | (with_reducible show wpAny _ _ (subscriptTail _ _ _ (Value.ref _)) _ _ _) | (with_reducible show wpAny _ _ (setItem _ (Value.ref _) _) _ _ _) | dsimp only | skip)) | ((with_reducible show wpAny _ _ (binaryOp Operator.Mult (Value.int _ _) (Value.int _ _)) _ _ _); (with_reducible (k_here; with_unfolding_all (refine twoM (by assumption) ?_))); (first | (with_reducible show wpAny _ _ (subscriptTail _ _ _ (Value.ref _)) _ _ _) | (with_reducible show wpAny _ _ (setItem _ (Value.ref _) _) _ _ _) | dsimp only | skip)) | ((with_reducible show wpAny _ _ (binaryOp Operator.Mult (Value.float _ _) (Value.float _ _)) _ _ _); (with_reducible (k_here; with_unfolding_all (refine backMul (by assumption) (by assumption) ?_); intro x9 f9)); (first | (with_reducible show wpAny _ _ (subscriptTail _ _ _ (Value.ref _)) _ _ _) | (with_reducible show wpAny _ _ (setItem _ (Value.ref _) _) _ _ _) | dsimp only | skip)) | ((with_reducible show wpAny _ _ (binaryOp Operator.Div (Value.int _ _) (Value.float _ _)) _ _ _); (with_reducible (k_here; with_unfolding_all (refine lvlDiv (by assumption) ?_); intro x9 f9)); (first | (with_reducible show wpAny _ _ (subscriptTail _ _ _ (Value.ref _)) _ _ _) | (with_reducible show wpAny _ _ (setItem _ (Value.ref _) _) _ _ _) | dsimp only | skip)) | ((with_reducible show wpAny _ _ (call (Value.ref _) _) _ _ _); (with_reducible (k_here; (with_reducible show wpAny _ _ (call (Value.ref 28) _) _ _ _); with_unfolding_all ( refine' Does.use (rgb_does _ _ _ _ _ _ _ _ _ _ _ _ _ ?zqf1 ?zqf2 ?zqf3 ?zqb1 ?zqb2 ?zqb3) ?zqk1 ?zqk2 ?zqk3 ?zqk4 ?zqk5 ?zqk6 ?zqk7 ?zqk8 ?zqk9 ?_; (case zqk1 => k_asm); (case zqk2 => k_asm); (case zqk3 => k_asm); (case zqk4 => k_asm); (case zqk5 => k_asm); (case zqk6 => first | exact rfl | assumption); (case zqk7 => (repeat' (first | exact List.forall_mem_nil _ | refine List.forall_mem_cons.mpr ⟨by k_mem, ?_⟩))); (case zqf1 => assumption); (case zqf2 => assumption); (case zqf3 => assumption); (case zqb1 => assumption); (case zqb2 => assumption); (case zqb3 => assumption); (case zqk8 => ktr_room); (case zqk9 => ktr_units); intro r9 tl9 h9 tk9 F9 N9 hl9 ho9; obtain ⟨t9, n9, x9, y9, z9, u1, u2, u3, M9, e9, hm9, ⟨u9, fu9, ur9, ug9, ub9⟩, fz9, hM9⟩ := ho9; subst e9; (have l9 := apartOf hl9 hm9); (replace N9 := newsPick (less := (t9, _) :: _) N9 (List.forall_mem_cons.mpr ⟨List.mem_append_left _ hm9, fun _ h => List.mem_append_right _ h⟩)); clear hl9 hm9; (have i9 := max_in hM9 (by assumption) (by assumption) (by assumption)); (try dsimp only); (try k_fold)))); (first | (with_reducible show wpAny _ _ (subscriptTail _ _ _ (Value.ref _)) _ _ _) | (with_reducible show wpAny _ _ (setItem _ (Value.ref _) _) _ _ _) | dsimp only | skip)) | ((with_reducible show wpAny _ _ (call (Value.ref _) _) _ _ _); (with_reducible (k_here; (with_reducible show wpAny _ _ (call (Value.ref 197) _) _ _ _); with_unfolding_all ( refine' turned_open (lit := [_, _, _, _, _, _, _]) ?zqh1 ?zqh2 ?zqh3 ?zqh4 ?zqh5 ?zqh6 ?zqh7 ?zqh8 ?zqh9 ?zqh10 ?_; (case zqh1 => assumption); (case zqh2 => decide); (case zqh3 => k_asm); (case zqh4 => k_asm); (case zqh5 => k_asm); (case zqh6 => k_asm); (case zqh7 => k_asm); (case zqh8 => first | exact rfl | assumption); (case zqh9 => ktr_room); (case zqh10 => ktr_units); intro r9 R9 h9 tk9 F9 N9 sub9 off9 E9; (try dsimp only [List.cons_append, List.nil_append] at N9)))); (first | (with_reducible show wpAny _ _ (subscriptTail _ _ _ (Value.ref _)) _ _ _) | (with_reducible show wpAny _ _ (setItem _ (Value.ref _) _) _ _ _) | dsimp only | skip)) | ((with_reducible show wpAny _ _ (pyIter (Value.ref _)) _ _ _); (with_reducible (k_here; (rename IsRange _ _ _ _ _ _ _ _ => rgX); refine Halt.out ?_)); (first | (with_reducible show wpAny _ _ (subscriptTail _ _ _ (Value.ref _)) _ _ _) | (with_reducible show wpAny _ _ (setItem _ (Value.ref _) _) _ _ _) | dsimp only | skip)) | ((with_reducible show wpAny _ _ (call (Value.type "int") _) _ _ _); (with_reducible (k_here; with_unfolding_all (refine truncI (by assumption) (by assumption) ?_))); (first | (with_reducible show wpAny _ _ (subscriptTail _ _ _ (Value.ref _)) _ _ _) | (with_reducible show wpAny _ _ (setItem _ (Value.ref _) _) _ _ _) | dsimp only | skip)) | ((with_reducible show LCg.CompEnd _ _ _ _ _ _ _ _ _ _ _ _ _ _); ((refine LCg.CompEnd.intro (by assumption) (by assumption) _ (fun p hp => hp) (by assumption) (by lcg_src) ?_)); (first | (with_reducible show wpAny _ _ (subscriptTail _ _ _ (Value.ref _)) _ _ _) | (with_reducible show wpAny _ _ (setItem _ (Value.ref _) _) _ _ _) | dsimp only | skip)) | (walk1; (first | (with_reducible show wpAny _ _ (subscriptTail _ _ _ (Value.ref _)) _ _ _) | (with_reducible show wpAny _ _ (setItem _ (Value.ref _) _) _ _ _) | dsimp only | skip)) | (dsimp only; walk1) | (leave1; (try dsimp only)) | fail "no step")
      refine' hret _ _ _ _ ?e0 (newsBack hfull hg' (by assumption) (by assumption) ?e1 hex (fun q h => h)) ⟨_, _, _, _, rfl, .head _, hEn.mono ?e2⟩
      case e0 => k_asm
      case e1 => exact fun q hq => .tail _ (.tail _ (.tail _ (.tail _ (.tail _ (.tail _ (.tail _ (.tail _ (hok.sub q hq))))))))
      case e2 => exact fun q hq => .tail _ (.tail _ (.tail _ (.tail _ (.tail _ (.tail _ (.tail _ (.tail _ hq)))))))
    · rename News _ _ _ _ => N3
      rename Fr _ _ _ _ => F3
      refine' toldNext (k := 64) (lit := [_, _, _, _, _, _, _]) F3 N3 hok (by simp [sgK]) (go64 hlev hs (by assumption) (by assumption) (by assumption) (by assumption) (by assumption) (.inl (by assumption))) he (by assumption) (by assumption) (by assumption) hI (by k_mem) rfl rfl (by kst_same)
    · rename News _ _ _ _ => N3
      rename Fr _ _ _ _ => F3
      refine' toldNext (k := 64) (lit := [_, _, _, _, _, _, _]) F3 N3 hok (by simp [sgK]) (go64 hlev hs (by assumption) (by assumption) (by assumption) (by assumption) (by assumption) (.inr (by assumption))) he (by assumption) (by assumption) (by assumption) hI (by k_mem) rfl rfl (by kst_same)
    · rename News _ _ _ _ => N3
      rename Fr _ _ _ _ => F3
      refine' toldNext (k := 94) (lit := [_, _, _, _, _, _, _]) F3 N3 hok (by simp [sgK]) (go94 hlev hs (by assumption) (by assumption) (by assumption) (by assumption) (by assumption) (by assumption) (by assumption) (by assumption)) he (by assumption) (by assumption) (by assumption) hI (by k_mem) rfl rfl (by kst_same)
    · rename News _ _ _ _ => N3
      rename Fr _ _ _ _ => F3
      refine' toldNext (k := 126) (lit := [_, _, _, _, _, _, _]) F3 N3 hok (by simp [sgK]) (go126 hlev hs (by assumption) (by assumption) (by assumption) (by assumption) (by assumption) (by assumption) (by assumption) (by assumption)) he (by assumption) (by assumption) (by assumption) hI (by k_mem) rfl rfl (by kst_same)
end
end Mine
end

section
open PySem PySem.W PyProof.Rows PySem.Builtin PySem.Builtin.List
set_option maxRecDepth 100000
namespace Mine
theorem pk_iter (p : Params) : findIn (K63 p) (.ref 108) "__iter__" = some (some (.builtin "list.__iter__")) := by kernel_rfl
def SeqAt (h : Heap) (a : Addr) (items : Array Value) : Prop := ∃ o n, h.get? a = some o ∧ o.data = .seq items n
theorem SeqAt.extBut {h h' : Heap} {a b : Addr} {items : Array Value} (x : SeqAt h a items) (hs : Heap.ExtBut b h h') (hab : a ≠ b) : SeqAt h' a items :=
  let ⟨o, n, ho, r⟩ := x; ⟨o, n, hs a o hab ho, r⟩
section
variable {prog : Program} {w : World} {A : Around} {E : Value → Shared → Prop} {s : Shared} {P : Params} {p D : Addr} {vs : List Value} {n : Nat} {od : Obj}
theorem PileAt.keeps {h h' : Heap} (I : PileAt h p D vs n od) (k : ∀ b o, h.get? b = some o → h'.get? b = some o) : PileAt h' p D vs n od := ⟨k _ _ I.at_, k _ _ I.dict⟩
theorem pile_pyIter {Q : Value → Shared → Prop} (X : (K63 P).In s.heap) (I : PileAt s.heap p D vs n od)
    (hQ : Q (.ref s.heap.objs.size) { s with heap := s.heap.push { cls := .type "list_iterator", data := .fields #[.ref p, .int 0 0] } }) : wpAny (model prog w) A (pyIter (.ref p)) Q E s := by
  unfold pyIter
  have sp : ∀ {A' : Around} {Q' : Option Value → Shared → Prop} {E' : Value → Shared → Prop}, Q' (some (.builtin "list.__iter__")) s → wpAny (model prog w) A' (specialOf (.ref p) "__iter__") Q' E' s := fun q => by
    unfold specialOf
    exact wpAny_bind (I.inst.type.here ((looks_findIn X (pk_iter P)).here q))
  have bd : bindSpecial (.builtin "list.__iter__") (.ref p) = pure (.builtin "list.__iter__", [.ref p]) := slot_list_iter.bind _
  have cs : ∀ {refuse : Sem Value} {Q' : Option Value → Shared → Prop}, wpAny (model prog w) A (call (.builtin "list.__iter__") [.ref p]) (fun v => Q' (some v)) E s → wpAny (model prog w) A (callSpecialIfBoundUnlessNone? (.ref p) "__iter__" refuse) Q' E s := by
    intro refuse Q' hc
    simp only [callSpecialIfBoundUnlessNone?, bindSpecialIfBound?]
    refine wpAny_holding (wpAny_bind (wpAny_bind (sp ?_)))
    simp only [bd]
    refine wpAny_bind (wpAny_askSetting (wpAny_ite ?_))
    have fin : wpAny (model prog w) A (if (Value.builtin "list.__iter__" == Value.none) = true then (refuse >>= fun v => pure (some v)) else (call (.builtin "list.__iter__") [.ref p] >>= fun v => pure (some v))) Q' E s := by
      simp only [builtin_beq_none, Bool.false_eq_true, if_false]
      exact wpAny_bind (wpAny_mono hc (fun v s' h' => wpAny_pure h') fun _ _ h' => h')
    split
    · exact wpAny_bind (wpAny_pure (wpAny_pure fin))
    · exact wpAny_tryCatch (wpAny_bind (wpAny_pure (wpAny_pure fin)))
  refine wpAny_bind (sp ?_)
  show wpAny _ A (callSpecialIfBoundUnlessNone? (.ref p) "__iter__" _ >>= _) Q E s
  refine wpAny_bind (cs (wpAny_mono (Q := fun it s' => ∃ T' r, s'.TypeIs it T' ∧ typeLookup (.type T') "__next__" = pure (some r) ∧ Q it s') ?_ (fun it s' h' => ?_) fun _ _ x => x))
  · refine call_own (owner := "list") (n := "__iter__") (by decide +kernel) entry_list_iter (by first | exact .inl (by decide +kernel) | exact .inr (by decide +kernel)) (by decide +kernel) (I.isList X) (args_list_iter _) ?_
    show wpAny _ _ (do ret (← newFields "list_iterator" [.ref p, rawInt 0])) _ _ s
    exact wpAny_bind (wpAny_newObj_type (wpAny_pure ⟨_, rfl, "list_iterator", _, ⟨_, Heap.get?_push_size _ rfl, rfl⟩, slot_listiter_next.lookup, hQ⟩))
  · obtain ⟨T', r, hT', hl, hQ⟩ := h'
    exact wpAny_bind (wpAny_specialOf hT' hl (wpAny_pure hQ))
theorem seq_next {it l : Addr} {i : Nat} {items : Array Value} {x : Value} {Q : Option Value → Shared → Prop} (hit : s.heap.IsListIter it l i)
    (hl : SeqAt s.heap l items) (hx : items[i]? = some x)
    (hQ : ∀ h', h'.IsListIter it l (i + 1) → Heap.SameBut it s.heap h' → Q (some x) { s with heap := h' }) :
    wpAny (model prog w) A (pyNext (.ref it)) Q E s := by
  obtain ⟨o, ho, hc, hd⟩ := id hit
  obtain ⟨ol, nl, hol, hdl⟩ := hl
  unfold pyNext
  refine wpAny_bind (wpAny_attempt (wpAny_callSpecial?_slot (name := Str.ofString "__next__") hit.typeIs slot_listiter_next
    (wpAny_call_entry slot_listiter_next hit.typeIs entry_listiter_next ?_ (args_listiter_next _))))
  show wpAny _ _ (field (.ref it) 0 >>= _) _ _ s
  refine wpAny_bind (wpAny_field ho hd (x := .ref l) rfl ?_)
  show wpAny _ _ (if (Value.ref l == Value.none) = true then _ else _) _ _ s
  rw [if_neg (show ¬ ((Value.ref l == Value.none) = true) from Bool.false_ne_true)]
  show wpAny _ _ (field (.ref it) 1 >>= _) _ _ s
  refine wpAny_bind (wpAny_field ho hd (x := .int i 0) rfl ?_)
  show wpAny _ _ (seqItems? (.ref l) >>= _) _ _ s
  refine wpAny_bind (wpAny_seqItems hol hdl ?_)
  simp only [Int.toNat_natCast, hx]
  refine wpAny_bind (wpAny_setField ho hd (by simp) (wpAny_pure ⟨x, rfl, wpAny_pure (hQ _ ?_ (Heap.SameBut.update ..))⟩))
  exact ⟨_, Heap.get?_update_self _ ho (Obj.isFreed_of_fields (Obj.data_mapFields hd _)), (Obj.cls_mapFields ..).trans hc, by
    rw [Obj.data_mapFields hd]; simp [rawInt]⟩
theorem seq_end {it l : Addr} {i : Nat} {items : Array Value} {Q : Option Value → Shared → Prop} (hh : A.handled = none)
    (hit : s.heap.IsListIter it l i) (hl : SeqAt s.heap l items) (hx : items[i]? = none)
    (hQ : ∀ h', Heap.ExtBut it s.heap h' → Q none { s with heap := h' }) : wpAny (model prog w) A (pyNext (.ref it)) Q E s := by
  obtain ⟨o, ho, hc, hd⟩ := id hit
  obtain ⟨ol, nl, hol, hdl⟩ := hl
  unfold pyNext
  refine wpAny_bind (wpAny_attempt (wpAny_callSpecial?_slot (name := Str.ofString "__next__") hit.typeIs slot_listiter_next
    (wpAny_call_entry slot_listiter_next hit.typeIs entry_listiter_next ?_ (args_listiter_next _))))
  show wpAny _ _ (field (.ref it) 0 >>= _) _ _ s
  refine wpAny_bind (wpAny_field ho hd (x := .ref l) rfl ?_)
  show wpAny _ _ (if (Value.ref l == Value.none) = true then _ else _) _ _ s
  rw [if_neg (show ¬ ((Value.ref l == Value.none) = true) from Bool.false_ne_true)]
  show wpAny _ _ (field (.ref it) 1 >>= _) _ _ s
  refine wpAny_bind (wpAny_field ho hd (x := .int i 0) rfl ?_)
  show wpAny _ _ (seqItems? (.ref l) >>= _) _ _ s
  refine wpAny_bind (wpAny_seqItems hol hdl ?_)
  simp only [Int.toNat_natCast, hx]
  refine wpAny_bind (wpAny_rule (wpAny_bind (wpAny_setField ho hd (by simp) ?_)))
  show wpAny _ _ (newExc (.type "StopIteration") [] >>= _) _ _ _
  refine wpAny_bind ?_
  simp only [newExc, newTuple]
  refine wpAny_bind (wpAny_newObj_type ?_ (by size_fits))
  refine wpAny_bind (m := firstArgMember _ _) (wpAny_of_eq (a := Value.none) (by first | rfl | (simp only [firstArgMember]; rfl)) ?_)
  refine wpAny_newObj_type ?_ (by size_fits)
  simp only [raiseNew]
  refine wpAny_bind (wpAny_handled ?_)
  rw [show A.in1.handled = none from hh]
  refine wpAny_bind (wpAny_pure (wpAny_throw ?_))
  refine wpAny_bind (wpAny_isInstance (T := "StopIteration") (b := true) ⟨_, Heap.get?_push_size _ rfl, rfl⟩ isSubtype_stop ?_)
  exact wpAny_pure (hQ _ (((Heap.SameBut.update ..).extBut.push _).push _))
/-- a pile's pieces, one by one -/
theorem pileWalks (hh : A.handled = none) (I ax : Addr) (hne : ax ≠ I) (items : Array Value) (Ts : Nat → Addr) (vals : Nat → Array Value)
    (hit : ∀ j, j < items.size → items[j]? = some (.ref (Ts j))) (hTI : ∀ j, j < items.size → Ts j ≠ I) :
    WalksU prog w A I (I :: ax :: (List.range items.size).map Ts) [I] items.size (fun j v => j < items.size ∧ v = vals j)
      (fun j h => h.IsListIter I ax j ∧ SeqAt h ax items ∧ ∀ k, k < items.size → h.IsTuple (Ts k) (vals k))
      (fun j T h => (j < items.size ∧ T = Ts j) ∧ h.IsListIter I ax (j + 1) ∧ SeqAt h ax items ∧ ∀ k, k < items.size → h.IsTuple (Ts k) (vals k)) where
  sub := fun b hb => by simp at hb; simp [hb]
  frame := fun _ _ _ st hk => ⟨st.1.at fun o e => hk I (by simp) o e, (let ⟨o, n, ho, r⟩ := st.2.1; ⟨o, n, hk ax (by simp) o ho, r⟩),
    fun k hk' => (st.2.2 k hk').at fun o e => hk (Ts k) (List.mem_cons_of_mem _ (List.mem_cons_of_mem _ (List.mem_map.mpr ⟨k, List.mem_range.mpr hk', rfl⟩))) o e⟩
  item := fun i s Q E hi st hQ => by
    refine seq_next st.1 st.2.1 (x := .ref (Ts i)) (hit i hi) fun h' hit' hs' => ?_
    have tup : ∀ k, k < items.size → h'.IsTuple (Ts k) (vals k) := fun k hk' => (st.2.2 k hk').extBut hs'.extBut (hTI k hk')
    exact hQ (Ts i) (vals i) h' s.toks ⟨hi, rfl⟩ (tup i hi) ⟨⟨hi, rfl⟩, hit', st.2.1.extBut hs'.extBut hne, tup⟩ fun b o hb e => hs'.extBut b o (fun h => hb (by simp [h])) e
  go := fun _ _ _ _ _ s Q _ hm hQ => wpAny_letOwnedTupleGo_listiter hm.2.1 (hQ s.heap hm.2 fun _ _ _ e => e)
  apart := fun j T _ hm hmem => by
    rcases List.mem_cons.mp hmem with e | e
    · exact hTI j hm.1.1 (hm.1.2 ▸ e)
    · cases e
  done := fun s Q E st hQ => seq_end hh st.1 st.2.1 (by simp) fun h' he' => hQ h' s.toks fun b o hb e => he' b o (fun h => hb (by simp [h])) e
  self := fun _ _ _ _ st hQ => wpAny_pyIter_listiter st.1 hQ
end
end Mine
end

section
open PySem PySem.W PyProof.Rows PySem.Calls PySem.Spec
set_option Elab.async false
set_option maxRecDepth 100000
set_option maxHeartbeats 4000000
namespace Mine
section
variable {prog : Program} {w : World} {A₀ A : Around} {s : Shared} {base h₀ : Heap} {outer : List Env} {L : Addr} {m mg mb : Str → Option Value} {env : Env} {ex : Led} {K : Frag} {p : Program} {loose : List Str} {mean : ExcName → Option Value}
  {R : Result → Shared → Prop} {name qual : Str} {params : Arguments} {body : List Stmt} {scope : Scope} {dV kV doc pm cdv ct oc : Value} {an od : Option Addr} {osl : Array (Option Value)} {f : Addr} {args : Args} {binds : List (Str × Value)}
/-- a def's body entered, all that stands its base -/
theorem enterRaw (X : K.In s.heap) (hlim : s.heap.NoLimit)
    (ho : K.lookup f = some ⟨oc, od, .func (fnOf name qual params body scope dV kV doc pm an cdv ct), osl⟩) (hcd : codeIn K cdv qual = true) (hroom : A.depth < recursionLimit)
    (hbind : BindsTo s (fnOf name qual params body scope dV kV doc pm an cdv ct) args binds) (hloc : ∀ y ∈ binds, scope.names.lookup y.1 = some .local)
    (h : ∀ h₁ tk₁, Fr s.heap s.heap.objs.size h₁ (fun y => binds.reverse.lookup y) →
      wpAny (model prog w) (A.deeper (envOf qual scope s.heap.objs.size f cdv)) (execs body (envOf qual scope s.heap.objs.size f cdv))
        (fun fl s' => R (.ok (.ret (match fl with | .ret v => v | _ => .none))) s')
        (fun e s' => wpAny (model prog w) (A.deeper (envOf qual scope s.heap.objs.size f cdv)) (leaving (envOf qual scope s.heap.objs.size f cdv) e) (fun _ s'' => R (.error e) s'') (fun e' s'' => R (.error e') s'') s')
        { s with heap := h₁, toks := tk₁ })
    (hco : scope.isCoroutine = false) (hgen : scope.isGenerator = false) (hk : scope.kind = .function)
    (hcell : ∀ x ∈ scope.names, x.2 ≠ .cell) : codeAny (model prog w) A (.call (.ref f) args) R s :=
  codeAny_call_def (fd := fnOf name qual params body scope dV kV doc pm an cdv ct) (body := body) (binds := binds) hroom (X _ _ ho) rfl hlim (codeRec_of X hcd) rfl hbind hcell hloc
    (fun h₁ hns hk₁ => h h₁ _ ⟨hns, hk₁, Nat.le_refl _⟩) hco hgen hk
end
section
variable {prog : Program} {w : World} {A : Around} {E : Value → Shared → Prop} {s : Shared} {Q : Value → Shared → Prop}
theorem joinTwo {k D : Nat} {t t1 t2 : Tok} (hl : s.heap.IsTuple D #[.str sNil t1, .str ⟨#[k]⟩ t2]) (h : ∀ t' tk, Q (.str ⟨#[k]⟩ t') { s with toks := tk }) : wpAny (model prog w) A (call (.builtin "str.join") [.str sNil t, .ref D]) Q E s := by
  have e : Txt.join sNil [sNil, ⟨#[k]⟩] = (⟨#[k]⟩ : Str) := by
    show Builtin.Str.glued sNil [sNil, ⟨#[k]⟩] = _
    rw [StrLaws.glued_eq_join]
    refine Str.ext' (Array.toList_inj.mp ?_)
    rfl
  obtain ⟨o, ho, hc, n, hd⟩ := hl
  refine join_tupleW (ys := [sNil, ⟨#[k]⟩]) ⟨o, ho, hc, n, hd⟩ (.cons _ _ (.cons _ _ .nil)) (by decide) (by show 0 + (1 + 0) + 2 ≤ _; decide) fun t' tk => ?_
  rw [e]
  exact h t' tk
theorem join_signs : ∀ (l : List Nat), Txt.join sNil (l.map fun k => (⟨#[k]⟩ : Str)) = ⟨l.toArray⟩ := by
  intro l
  show Builtin.Str.glued sNil _ = _
  rw [StrLaws.glued_eq_join]
  induction l with
  | nil => rfl
  | cons k r ih =>
    cases r with
    | nil => rfl
    | cons j r =>
      show (⟨#[k]⟩ : Str) ++ sNil ++ Str.join sNil ((j :: r).map fun k => (⟨#[k]⟩ : Str)) = _
      rw [ih]
      refine Str.ext' (Array.toList_inj.mp ?_)
      simp [Str.cps_append]
      rfl
end
theorem pk_81 (P : Params) {h : Heap} (X : (K63 P).In h) (h77 : h.get? 77 = some (PySem.W.X.tableObj #[])) : Based h h 81 77 #[] := by
  obtain ⟨vs, ho, h11, a, b, c, d⟩ : ∃ vs, (K63 P).lookup 81 = some { cls := .type "code", dict := none, data := .fields vs, slots := #[] } ∧ vs[11]? = some (.ref 77) ∧ (∃ f t, vs.getD 18 .none = .str f t) ∧ (∃ f t, vs.getD 7 .none = .int f t) ∧ (∃ b, vs.getD 9 .none = .bool b) ∧ (∃ f t, vs.getD 10 .none = .int f t) :=
    ⟨_, rfl, rfl, ⟨_, _, rfl⟩, ⟨_, _, rfl⟩, ⟨_, rfl⟩, ⟨_, _, rfl⟩⟩
  obtain ⟨f1, t1, a⟩ := a
  obtain ⟨f2, t2, b⟩ := b
  obtain ⟨f3, c⟩ := c
  obtain ⟨f4, t4, d⟩ := d
  have hP : vs.getD 11 .none = .ref 77 := by simp [Array.getD_eq_getD_getElem?, h11]
  have ho' := X _ _ ho
  have tab : h.TableAt 81 77 #[] := ⟨⟨_, vs, ho', rfl, rfl, h11⟩, h77⟩
  exact ⟨OldK.refl _, ⟨rfl, fun _ _ => rfl⟩, ⟨_, vs, f1, t1, f2, t2, f3, f4, t4, _, ho', rfl, hP, a, b, c, d, h77, rfl, trivial, by decide⟩, tab, ⟨_, tab⟩, by decide⟩
theorem pk_str (p : Params) : findIn (K63 p) (.ref 108) "__str__" = some (some (.ref 82)) := by kernel_rfl
theorem pk_strfn (p : Params) : isFn (K63 p) (.ref 82) = true := by kernel_rfl
section
variable {w : World} {A : Around} {E : Value → Shared → Prop} {s : Shared} {mean : ExcName → Option Value} {mg mb : Str → Option Value} {p D : Addr} {vs : List Value} {n : Nat} {od : Obj}
/-- the pile's pieces, as told by numbers -/
structure PileH (h : Heap) (vs : List Value) (wd : List Nat) (Ts : Nat → Addr) (vals : Nat → Array Value) : Prop where
  len : vs.length = wd.length
  at_ : ∀ j, j < vs.toArray.size → vs.toArray[j]? = some (.ref (Ts j))
  tup : ∀ j, j < vs.toArray.size → h.IsTuple (Ts j) (vals j)
  val : ∀ j, j < vs.toArray.size → ∃ t1 t2, vals j = #[.str sNil t1, .str ⟨#[wd.getD j 0]⟩ t2]
theorem str_does {wd : List Nat} {Ts : Nat → Addr} {vals : Nat → Array Value} {Q : Value → Shared → Prop} (hh : A.handled = none) (hd : A.depth + 8 < recursionLimit) (hu : A.units + 64 < cLine) :
    (K63 w.params).In s.heap → 
    Top view63 (looseW view63 [Str.ofString "ONE_THIRD", Str.ofString "ONE_SIXTH", Str.ofString "_Accumulator", Str.ofString "EXACT_TOKEN_TYPES"]) mean mg mb s.heap →
    AllBare s.gens → s.heap.get? 77 = some (PySem.W.X.tableObj #[]) → PileAt s.heap p D vs n od → PileH s.heap vs wd Ts vals → wd.length ≤ 12 →
    (∀ t s' ps, (∀ b o, b ≠ 77 → s.heap.get? b = some o → s'.heap.get? b = some o) → s'.heap.get? 77 = some (PySem.W.X.tableObj ps) → AllBare s'.gens → s'.os = s.os → Q (.str ⟨wd.toArray⟩ t) s') →
    wpAny (model Challenge.rw_xg0063_01.row.prog w) A (call (.type "str") [.ref p]) Q E s := by
  k_fill
  intro X T G h77 I hp hlen hret
  refine kso_call (f := 82) ?hu X I.inst (pk_str _) (pk_strfn _) ?_
  case hu => simp only [Around.in1]; omega
  refine wpAny_call ?_
  refine' enterRaw (binds := [(Str.ofString "self", .ref p)]) X T.nolimit ?ho ?hcd ?hroom ?hbind ?hloc ?_ ?hco ?hgen ?hk ?hcell
  case ho => k_is
  case hcd => k_is
  case hroom => (simp only [Around.in1]; omega)
  case hbind => first | exact BindsTo.of_eq rfl | exact binds_K (by k_in) rfl (by k_is) rfl rfl rfl
  case hloc => exact locs rfl
  case hcell => decide
  case hco => exact rfl
  case hgen => exact rfl
  case hk => exact rfl
  k_whole
  intro h₁ tk₁ F
  (try dsimp only); (try k_fold)
  repeat' (first | (k_unfold; (try dsimp only)) | (k_end; wrow_close) | ((with_reducible show wpAny _ _ (eval (PySem.Expr.Name _ _) _) _ _ _); (with_reducible (first | (with_unfolding_all refine ldVarG (by assumption) (by assumption) ?_) | (with_unfolding_all refine Name_function_global rfl rfl (loadGlobal_global (by assumption) (by assumption) ?_) (by decide)))); (first | (with_reducible show wpAny _ _ (subscriptTail _ _ _ (Value.ref _)) _ _ _) | (with_reducible show wpAny _ _ (setItem _ (Value.ref _) _) _ _ _) | dsimp only | skip)) | (walk1; (first | (with_reducible show wpAny _ _ (subscriptTail _ _ _ (Value.ref _)) _ _ _) | (with_reducible show wpAny _ _ (setItem _ (Value.ref _) _) _ _ _) | dsimp only | skip)) | (dsimp only; walk1) | (leave1; (try dsimp only)) | fail "no step")
  obtain ⟨bm, ob, M⟩ := bmod_of_top T
  have hE := mg_of X T.g (n := Str.ofString "EMPTYSTRING") (by k_is)
  have BD := pk_81 _ X h77
  have XF := X.keeps F.keep
  have IF := I.keeps F.keep
  refine' GeneratorExp_rowsTP (L := s.heap.objs.size) (m := fun y => List.lookup y [(Str.ofString "self", Value.ref p)].reverse) (cl := []) BD M rfl rfl ?q1 rfl ?q2 ?q3 rfl rfl rfl ?q4 rfl ?q5 ?_ ?q6
  case q1 => exact hh
  case q2 => rfl
  case q3 => decide
  case q4 => decide
  case q5 => (simp only [Around.in1, Around.deeper]; omega)
  case q6 => intro _; rfl
  k_dflt (refine ld F (by rfl) ?_)
  refine pile_pyIter XF IF ?_
  unfold GenPostT
  have hI0 : p ≠ h₁.objs.size := Nat.ne_of_lt (Heap.lt_size IF.at_)
  have hLt : s.heap.objs.size < h₁.objs.size := F.ns.lt
  refine ⟨F.push _, G, ?hlim, s.heap.objs.size, h₁.objs.size, _, _, _, _, _, _, (fun _ => true), (fun i y => ∃ t, y = .str ⟨#[wd.getD i 0]⟩ t), Nat.le_refl _, ?hK, rfl, (fun A' hA => pileWalks hA h₁.objs.size p hI0 vs.toArray Ts vals hp.at_ ?hTI), ?hPt, ?hst, ?hfp, ?hPf, ?hwr, ?ifs, ?elt, ?fin⟩
  case hlim => exact (T.nolimit.keeps F.keep).keeps fun b o e => Heap.get?_push_of_some _ e
  case hK => rw [Heap.size_push]; exact Nat.lt_succ_of_lt hLt
  case hTI =>
    intro j hj
    obtain ⟨o, ho, _⟩ := hp.tup j hj
    exact Nat.ne_of_lt (Heap.lt_size (F.keep _ _ ho))
  case hPt =>
    rintro i vals' ⟨hi, rfl⟩
    obtain ⟨t1, t2, e⟩ := hp.val i hi
    exact ⟨_, _, e⟩
  case hst =>
    refine ⟨⟨_, Heap.get?_push_size _ rfl, rfl, rfl⟩, ⟨_, _, Heap.get?_push_of_some _ IF.at_, rfl⟩, fun k hk => ?_⟩
    exact (hp.tup k hk).at fun o e => Heap.get?_push_of_some _ (F.keep _ _ e)
  case hfp =>
    intro b hb
    rw [Heap.size_push]
    rcases List.mem_cons.mp hb with rfl | hb
    · exact Nat.lt_succ_self _
    · rcases List.mem_cons.mp hb with rfl | hb
      · exact Nat.lt_succ_of_lt (Heap.lt_size IF.at_)
      · obtain ⟨k, hk, rfl⟩ := List.mem_map.mp hb
        obtain ⟨o, ho, _⟩ := hp.tup k (List.mem_range.mp hk)
        exact Nat.lt_succ_of_lt (Heap.lt_size (F.keep _ _ ho))
  case hPf =>
    intro hb
    rcases List.mem_cons.mp hb with e | hb
    · have := Heap.lt_size (F.keep _ _ h77); rw [e] at this; exact Nat.lt_irrefl _ this
    · rcases List.mem_cons.mp hb with e | hb
      · have := I.at_; rw [← e, h77] at this; cases this
      · obtain ⟨k, hk, e⟩ := List.mem_map.mp hb
        obtain ⟨o, ho, hc, _⟩ := hp.tup k (List.mem_range.mp hk)
        rw [e, h77] at ho; cases ho; cases hc
  case hwr => intro b hb; rw [List.mem_singleton.mp hb]; exact hLt
  case ifs => intro c' C A' E' i va vb t m₂ _ _ _ _ _ _ _ _ _; exact wpAny_pure ⟨rfl, _, _, rfl, fun _ _ e => e⟩
  case elt =>
    intro c' C A' E' i va vb t m₂ hA hdA huA hPt _ F9 hva hvb _ _
    obtain ⟨hi, e⟩ := hPt
    obtain ⟨t1, t2, e2⟩ := hp.val i hi
    rw [e2] at e
    obtain ⟨rfl, rfl⟩ : va = .str sNil t1 ∧ vb = .str ⟨#[wd.getD i 0]⟩ t2 := by simpa using congrArg Array.toList e
    have hns : t.heap.Ns mainGlobals mg := ((M.regrown BD).ns).keeps F9.keep
    (try dsimp only)
    repeat' (first | (k_unfold; (try dsimp only)) | (k_end; wrow_close) | ((with_reducible show wpAny _ _ (eval (PySem.Expr.Name _ _) _) _ _ _); (with_reducible (first | (with_unfolding_all refine ldVarG (by assumption) (by assumption) ?_) | (with_unfolding_all refine Name_function_global rfl rfl (loadGlobal_global (by assumption) (by assumption) ?_) (by decide)))); (first | (with_reducible show wpAny _ _ (subscriptTail _ _ _ (Value.ref _)) _ _ _) | (with_reducible show wpAny _ _ (setItem _ (Value.ref _) _) _ _ _) | dsimp only | skip)) | (walk1; (first | (with_reducible show wpAny _ _ (subscriptTail _ _ _ (Value.ref _)) _ _ _) | (with_reducible show wpAny _ _ (setItem _ (Value.ref _) _) _ _ _) | dsimp only | skip)) | (dsimp only; walk1) | (leave1; (try dsimp only)) | fail "no step")
    refine wpAny_newTuple ?_ (by show 2 ≤ sizeLine; rw [sizeLine_eq]; decide)
    repeat' (first | (k_unfold; (try dsimp only)) | (k_end; wrow_close) | ((with_reducible show wpAny _ _ (eval (PySem.Expr.Name _ _) _) _ _ _); (with_reducible (first | (with_unfolding_all refine ldVarG (by assumption) (by assumption) ?_) | (with_unfolding_all refine Name_function_global rfl rfl (loadGlobal_global (by assumption) (by assumption) ?_) (by decide)))); (first | (with_reducible show wpAny _ _ (subscriptTail _ _ _ (Value.ref _)) _ _ _) | (with_reducible show wpAny _ _ (setItem _ (Value.ref _) _) _ _ _) | dsimp only | skip)) | (walk1; (first | (with_reducible show wpAny _ _ (subscriptTail _ _ _ (Value.ref _)) _ _ _) | (with_reducible show wpAny _ _ (setItem _ (Value.ref _) _) _ _ _) | dsimp only | skip)) | (dsimp only; walk1) | (leave1; (try dsimp only)) | fail "no step")
    refine joinTwo ⟨_, Heap.get?_push_size _ rfl, rfl, 0, rfl⟩ fun t' tk => ?_
    exact ⟨⟨_, rfl⟩, _, _, rfl, fun b o e => Heap.get?_push_of_some _ e⟩
  case fin =>
    intro c' a s₅ B5 F5 G5 os5 k5 Gen5
    (try dsimp only)
    repeat' (first | (k_unfold; (try dsimp only)) | (k_end; wrow_close) | ((with_reducible show wpAny _ _ (eval (PySem.Expr.Name _ _) _) _ _ _); (with_reducible (first | (with_unfolding_all refine ldVarG (by assumption) (by assumption) ?_) | (with_unfolding_all refine Name_function_global rfl rfl (loadGlobal_global (by assumption) (by assumption) ?_) (by decide)))); (first | (with_reducible show wpAny _ _ (subscriptTail _ _ _ (Value.ref _)) _ _ _) | (with_reducible show wpAny _ _ (setItem _ (Value.ref _) _) _ _ _) | dsimp only | skip)) | (walk1; (first | (with_reducible show wpAny _ _ (subscriptTail _ _ _ (Value.ref _)) _ _ _) | (with_reducible show wpAny _ _ (setItem _ (Value.ref _) _) _ _ _) | dsimp only | skip)) | (dsimp only; walk1) | (leave1; (try dsimp only)) | fail "no step")
    have ep : passing (fun _ => true) vs.toArray.size 0 = List.range wd.length := by simp [passing, hp.len]
    simp only [ep, List.length_range] at Gen5
    have em : (List.range wd.length).map (fun j => (⟨#[wd.getD j 0]⟩ : Str)) = wd.map (fun k => ⟨#[k]⟩) := map_range wd (fun k => (⟨#[k]⟩ : Str))
    refine join_rows F5 G5 Gen5 (fun j => ⟨#[wd.getD j 0]⟩) ?htx ?hok ?hQ ?hsz
    case htx =>
      rintro j v ⟨i, hi, t, e⟩
      have : i = j := by
        have h1 := (List.getElem?_eq_some_iff.mp hi).2
        simpa using h1.symm
      subst this
      exact ⟨t, e⟩
    case hok =>
      rw [em]
      refine joinOk_of_weight ?_ (by decide)
      have : ∀ (l : List Nat), ((l.map fun k => (⟨#[k]⟩ : Str)).map (·.length)).sum = l.length := by
        intro l
        induction l with
        | nil => rfl
        | cons k r ih => rw [List.map_cons, List.map_cons, List.sum_cons, ih, List.length_cons]; show 1 + _ = _; omega
      rw [this, List.length_map]
      omega
    case hQ =>
      intro s' t' F6 G6 os6
      have ej := join_signs wd
      rw [em]
      show Q _ s'
      have ej' : Txt.join (Str.ofString "") (wd.map fun k => (⟨#[k]⟩ : Str)) = ⟨wd.toArray⟩ := ej
      rw [ej']
      exact hret t' s' _ (fun b o hb e => F6.keep b o ((Heap.get?_update_other _ _ (Ne.symm hb)).trans e)) (F6.keep _ _ B5.tab.2) G6 (os6.trans os5)
    case hsz => rw [sizeLine_eq]; omega
end
end Mine
end

section
open PySem PySem.W PyProof.Rows PySem.Calls
set_option maxRecDepth 100000
namespace Mine
theorem owns63 : ownsOf view63 = [] := by kernel_rfl
/-- a def's code table is not the written one -/
def tabFar (K : Frag) (n : Str) : Bool := match nsIn K mainGlobals n with
  | some (some (.ref a)) => (match K.lookup a with
    | some o => (match o.data with
      | .func fd => (match fd.code with
        | .ref c => (match K.lookup c with
          | some oc => (match oc.data with
            | .fields vs => (match vs[11]? with
              | some (Value.ref P) => P != 77
              | _ => false)
            | _ => false)
          | none => false)
        | _ => false)
      | _ => false)
    | none => false)
  | _ => false
def wallAt (K : Frag) (n : Str) : Bool := match nsIn K mainGlobals n with
  | some (some (Value.ref a)) => a == 21
  | _ => false
theorem tabs63 (P : Params) : ((recsOf view63).all fun d => wallAt (K63 P) d.name || tabFar (K63 P) d.name) = true := by kernel_rfl
theorem wall_far {P : Params} {h : Heap} {mg : Str → Option Value} {n : Str} (X : (K63 P).In h) (G : h.Ns mainGlobals mg) (hf : farOf h 21 = true) (e : wallAt (K63 P) n = true) {a c P' : Addr} {o : Obj} {fd : FuncData} {ps : Array Value}
    (h1 : mg n = some (.ref a)) (h2 : h.get? a = some o) (h3 : o.data = .func fd) (h4 : fd.code = .ref c) (h6 : h.TableAt c P' ps) : P' ≠ 77 := by
  unfold wallAt at e
  split at e
  · rename_i a' hn
    have hm := mg_of X G hn
    rw [h1] at hm; cases hm
    obtain rfl : a = 21 := by simpa using e
    unfold farOf at hf
    rw [h2] at hf
    dsimp only at hf
    rw [h3] at hf
    dsimp only at hf
    rw [h4] at hf
    dsimp only at hf
    obtain ⟨⟨o2, vs, e2, _, hd, h11⟩, _⟩ := h6
    rw [e2] at hf
    dsimp only at hf
    rw [hd] at hf
    dsimp only at hf
    rw [h11] at hf
    simpa using hf
  · cases e
theorem tab_far {P : Params} {h : Heap} {mg : Str → Option Value} {n : Str} (X : (K63 P).In h) (G : h.Ns mainGlobals mg) (e : tabFar (K63 P) n = true) {a c P' : Addr} {o : Obj} {fd : FuncData} {ps : Array Value}
    (h1 : mg n = some (.ref a)) (h2 : h.get? a = some o) (h3 : o.data = .func fd) (h4 : fd.code = .ref c) (h6 : h.TableAt c P' ps) : P' ≠ 77 := by
  unfold tabFar at e
  split at e
  · rename_i a' hn
    have hm := mg_of X G hn
    rw [h1] at hm; cases hm
    split at e
    · rename_i o' ho'
      have := X _ _ ho'
      rw [h2] at this; cases this
      rw [h3] at e
      dsimp only at e
      rw [h4] at e
      dsimp only at e
      split at e
      · rename_i oc hoc
        have := X _ _ hoc
        obtain ⟨⟨o2, vs, e2, _, hd, h11⟩, _⟩ := h6
        rw [e2] at this; cases this
        rw [hd] at e
        dsimp only at e
        rw [h11] at e
        simpa using e
      · cases e
    · cases e
  · cases e
theorem top_grow {P : Params} {h : Heap} {loose : List Str} {mean : ExcName → Option Value} {mg mb : Str → Option Value} {ps : Array Value} (X : (K63 P).In h) (h77 : h.get? 77 = some (PySem.W.X.tableObj #[])) (hf : farOf h 21 = true)
    (T : Top view63 loose mean mg mb h) : Top view63 loose mean mg mb (regrown h 77 ps) := by
  have BD := pk_81 P X h77
  have hx : ∀ b o, b ≠ 77 → h.get? b = some o → (regrown h 77 ps).get? b = some o := fun b o hb e => (Heap.get?_update_other _ _ (Ne.symm hb)).trans e
  refine { g := LGe.ns_regrown BD T.g, b := LGe.ns_regrown BD T.b, nolimit := let ⟨mc, h1, h2⟩ := T.nolimit; ⟨mc, LGe.ns_regrown BD h1, h2⟩, nodigits := let ⟨mc, h1, h2⟩ := T.nodigits; ⟨mc, LGe.ns_regrown BD h1, h2⟩, fn := ?_, own := ?_, const := T.const, free := T.free, builtins := T.builtins, tab := ?_, bmain := ?_, seer := ?_ }
  · intro d hd
    obtain ⟨a, o, pm, code, doc, h1, h2, h3, c, oc, vs, t, h4, h5, h6, h7⟩ := T.fn d hd
    refine ⟨a, o, pm, code, doc, h1, hx _ _ ?_ h2, h3, c, oc, vs, t, h4, hx _ _ ?_ h5, h6, h7⟩
    · rintro rfl; rw [h77] at h2; cases h2; cases h3
    · rintro rfl; rw [h77] at h5; cases h5; cases h6; cases h7
  · rw [owns63]; intro o ho; cases ho
  · intro d hd
    obtain ⟨a, o, fd, c, P', h1, h2, h3, h4, h5, h6⟩ := T.tab d hd
    have far : P' ≠ 77 := by
      rcases Bool.or_eq_true_iff.mp (List.all_eq_true.mp (tabs63 P) d hd) with e | e
      · exact wall_far X T.g hf e h1 h2 h3 h4 h6
      · exact tab_far X T.g e h1 h2 h3 h4 h6
    have hc : c ≠ 77 := by
      rintro rfl
      obtain ⟨⟨o2, vs, e2, hcl, _⟩, _⟩ := h6
      rw [h77] at e2; cases e2; cases hcl
    refine ⟨a, o, fd, c, P', h1, hx _ _ ?_ h2, h3, h4, ?_, ?_⟩
    · rintro rfl; rw [h77] at h2; cases h2; cases h3
    · exact h5.extBut (fun b o hb e => hx b o hb e) hc far
    · exact h6.extBut (fun b o hb e => hx b o hb e) hc far
  · obtain ⟨bm, ob, h1, h2, h3, h4, h5, h6⟩ := T.bmain
    refine ⟨bm, ob, h1, h2, hx _ _ ?_ h3, h4, h5, h6⟩
    rintro rfl; rw [h77] at h3; cases h3; cases h4
  · intro hi
    have x := T.seer hi
    refine ⟨let ⟨mc, a, b⟩ := x.statics; ⟨mc, LGe.ns_regrown BD a, b⟩, let ⟨mc, a, b⟩ := x.mods; ⟨mc, LGe.ns_regrown BD a, b⟩, let ⟨mc, a, b⟩ := x.imp; ⟨mc, LGe.ns_regrown BD a, b⟩, ?_⟩
    obtain ⟨mg', bm, ob, a, b, c, d, e⟩ := x.main
    refine ⟨mg', bm, ob, LGe.ns_regrown BD a, b, hx _ _ ?_ c, d, e⟩
    rintro rfl; rw [h77] at c; cases c; cases d
end Mine
end

section
open PySem PySem.W PyProof.Rows PySem.Calls
open AutoSeq1 (wpAny_loadPart')
open MeetsSeq MeetsSeq2 MeetsSeq3
set_option maxRecDepth 100000
namespace Mine
/-- two values are equal, under one program -/
def EqP (prog : Program) (w : World) (A : Around) (s : Shared) (y x : Value) : Prop :=
  ∀ (E : Value → Shared → Prop) (Q : Bool → Shared → Prop), Q true s → wpAny (model prog w) A (eqBool y x) Q E s
section
variable {prog : Program} {w : World} {A : Around} {s : Shared}
abbrev Fini (prog : Program) (w : World) (A : Around) (R : Result → Shared → Prop) (fin : PySem.Fin) (s' : Shared) : Prop := match fin with | .done f => R (.ok f) s' | .again c' => c'.quiet = true ∧ codeAny (model prog w) A c' R s'
abbrev lObj (T : String) (items : Array Value) (n : Nat) (dd : Option Addr) (sl : Array (Option Value)) : Obj := { cls := .type T, dict := dd, data := .seq items n, slots := sl }
theorem eqP_loop (l b : Addr) (items items2 : Array Value) (n n2 : Nat) (dd dd2 : Option Addr) (sl sl2 : Array (Option Value)) (hsz : items.size = items2.size) (c : Int) (r : Bool) (hc : (c = 2 ∧ r = true) ∨ (c = 3 ∧ r = false)) (k : Nat) :
    ∀ (i : Nat) (A : Around) (R : Result → Shared → Prop) (s : Shared), items.size - i = k → s.heap.get? l = some (lObj "list" items n dd sl) → s.heap.get? b = some (lObj "list" items2 n2 dd2 sl2) →
      (∀ j (h1 : j < items.size) (h2 : j < items2.size), EqP prog w A.in1 s items[j] items2[j]) → R (.ok (.ret (.bool r))) s →
      wpAny (model prog w) A.in1 (Builtin.«list.__eq__.loop» ⟨[.ref l, .ref b, rawInt i, rawInt c], []⟩) (Fini prog w A R) (fun e s' => R (.error e) s') s := by
  induction k with
  | zero =>
    intro i A R s hk hl hb he h
    obtain ⟨hp, g, d, tk, os⟩ := s
    have hi1 : items[((i : Nat) : Int).toNat]? = none := by simp; omega
    have hi2 : items2[((i : Nat) : Int).toNat]? = none := by simp; omega
    rcases hc with ⟨rfl, rfl⟩ | ⟨rfl, rfl⟩
    · wp_walk using wpAny_loadPart' hl, wpAny_loadPart' hb
      rw [hi1, hi2]
      wp_walk using wpAny_loadPart' hl, wpAny_loadPart' hb
      show R (.ok (.ret (.bool (items.size == items2.size)))) _
      rw [hsz]
      simpa using h
    · wp_walk using wpAny_loadPart' hl, wpAny_loadPart' hb
      rw [hi1, hi2]
      wp_walk using wpAny_loadPart' hl, wpAny_loadPart' hb
      show R (.ok (.ret (.bool (items.size != items2.size)))) _
      rw [hsz]
      simpa using h
  | succ k ih =>
    intro i A R s hk hl hb he h
    obtain ⟨hp, g, d, tk, os⟩ := s
    have hlt : i < items.size := by omega
    have hlt2 : i < items2.size := by omega
    have hi1 : items[((i : Nat) : Int).toNat]? = some items[i] := by simp [hlt]
    have hi2 : items2[((i : Nat) : Int).toNat]? = some items2[i] := by simp [hlt2]
    have hc' : ((i : Int) + 1) = ((i + 1 : Nat) : Int) := by push_cast; rfl
    rcases hc with ⟨rfl, rfl⟩ | ⟨rfl, rfl⟩
    · wp_walk using wpAny_loadPart' hl, wpAny_loadPart' hb
      rw [hi1, hi2]
      refine wpAny_bind (he i hlt hlt2 _ _ ?_)
      wp_walk
      rw [hc']
      exact ⟨plainId_quiet plain_eq_loop _, codeAny_builtin entry_eq_loop (by
        rw [Around.under_plainId plain_eq_loop _]
        exact ih (i + 1) A R _ (by omega) hl hb he h)⟩
    · wp_walk using wpAny_loadPart' hl, wpAny_loadPart' hb
      rw [hi1, hi2]
      refine wpAny_bind (he i hlt hlt2 _ _ ?_)
      wp_walk
      rw [hc']
      exact ⟨plainId_quiet plain_eq_loop _, codeAny_builtin entry_eq_loop (by
        rw [Around.under_plainId plain_eq_loop _]
        exact ih (i + 1) A R _ (by omega) hl hb he h)⟩
theorem eqP_lists {op : CmpOp} {l b : Addr} {items items2 : Array Value} {r : Bool} {E Q : Value → Shared → Prop} (hop : (op = .Eq ∧ r = true) ∨ (op = .NotEq ∧ r = false)) (hl : s.heap.IsList l items) (hb : s.heap.IsList b items2) (hsz : items.size = items2.size) (hu : A.units < cLine)
    (he : ∀ j (h1 : j < items.size) (h2 : j < items2.size), EqP prog w A.in1 s items[j] items2[j]) (h : Q (.bool r) s) : wpAny (model prog w) A (richCompare op (.ref l) (.ref b)) Q E s := by
  have tl := hl.typeIs
  have tb := hb.typeIs
  obtain ⟨⟨cls, dd, data, sl⟩, ho, hc, n, hd⟩ := id hl
  obtain ⟨⟨cls2, dd2, data2, sl2⟩, ho2, hc2, n2, hd2⟩ := id hb
  simp only at hc hd hc2 hd2
  subst hc hd hc2 hd2
  have fin : ∀ (R : Result → Shared → Prop), R (.ok (.ret (.bool r))) s → ∀ (c : Int), ((c = 2 ∧ r = true) ∨ (c = 3 ∧ r = false)) → wpAny (model prog w) A.in1 (Builtin.«list.__eq__.loop» ⟨[.ref l, .ref b, rawInt 0, rawInt c], []⟩) (Fini prog w A R) (fun e s' => R (.error e) s') s :=
    fun R hR c hc => eqP_loop l b items items2 n n2 dd dd2 sl sl2 hsz c r hc _ 0 A R s rfl ho ho2 he hR
  have hne : ¬ (items.size != items2.size) = true := by simp [hsz]
  have f3 := AutoSeq1.sub_list_list
  rcases hop with ⟨rfl, rfl⟩ | ⟨rfl, rfl⟩
  · refine wpAny_richCompare_same_room tl tb F.slot_list_eq (wpAny_call (codeAny_call_builtin F.slot_list_eq.plain F.entry_list_eq (F.slot_list_eq.check _ _ _ _ _ _ _ _ tl (F.args_list_eq_2 _ _) ?_))) hu
    obtain ⟨hp, g, d, tk, os⟩ := s
    wp_walk using wpAny_loadPart' ho, wpAny_loadPart' ho2
    exact ⟨plainId_quiet plain_eq_loop _, codeAny_builtin entry_eq_loop (by
      rw [Around.under_plainId plain_eq_loop _]
      exact fin (wants (fun v s' => v ≠ .notImplemented ∧ Q v s') E) ⟨nofun, h⟩ 2 (.inl ⟨rfl, rfl⟩))⟩
  · refine wpAny_richCompare_same_room tl tb F.slot_list_ne (wpAny_call (codeAny_call_builtin F.slot_list_ne.plain F.entry_list_ne (F.slot_list_ne.check _ _ _ _ _ _ _ _ tl (F.args_list_ne_2 _ _) ?_))) hu
    obtain ⟨hp, g, d, tk, os⟩ := s
    wp_walk using wpAny_loadPart' ho, wpAny_loadPart' ho2
    exact ⟨plainId_quiet plain_eq_loop _, codeAny_builtin entry_eq_loop (by
      rw [Around.under_plainId plain_eq_loop _]
      exact fin (wants (fun v s' => v ≠ .notImplemented ∧ Q v s') E) ⟨nofun, h⟩ 3 (.inr ⟨rfl, rfl⟩))⟩
theorem eqP_tuples {l b : Addr} {items items2 : Array Value} {E Q : Value → Shared → Prop} (hl : s.heap.IsTuple l items) (hb : s.heap.IsTuple b items2) (hsz : items.size = items2.size) (hu : A.units < cLine)
    (he : ∀ j (h1 : j < items.size) (h2 : j < items2.size), EqP prog w A.in1 s items[j] items2[j]) (h : Q (.bool true) s) : wpAny (model prog w) A (richCompare .Eq (.ref l) (.ref b)) Q E s := by
  have tl : s.TypeIs (.ref l) "tuple" := let ⟨o, ho, hc, _⟩ := hl; ⟨o, ho, hc⟩
  have tb : s.TypeIs (.ref b) "tuple" := let ⟨o, ho, hc, _⟩ := hb; ⟨o, ho, hc⟩
  obtain ⟨⟨cls, dd, data, sl⟩, ho, hc, n, hd⟩ := id hl
  obtain ⟨⟨cls2, dd2, data2, sl2⟩, ho2, hc2, n2, hd2⟩ := id hb
  simp only at hc hd hc2 hd2
  subst hc hd hc2 hd2
  have f2 := AutoSeq1.sub_tuple_tuple
  have hZ : (items.toList.zip items2.toList).length = items.size := by simp [hsz]
  refine wpAny_richCompare_same_room tl tb F.slot_tuple_eq (wpAny_call (codeAny_call_builtin F.slot_tuple_eq.plain F.entry_tuple_eq (F.slot_tuple_eq.check _ _ _ _ _ _ _ _ tl (F.args_tuple_eq_2 _ _) ?_))) hu
  refine wpAny_mono (Q := fun fin s' => ∃ v, fin = .done (.ret v) ∧ v ≠ .notImplemented ∧ Q v s') (E := E) ?_ (fun fin s' h' => by obtain ⟨v, rfl, hv⟩ := h'; exact hv) fun _ _ x => x
  obtain ⟨hp, g, d, tk, os⟩ := s
  wp_walk using wpAny_loadPart' ho, wpAny_loadPart' ho2, wpAny_forIn_list _ (fun rest b s' => b.1 = none ∧ s' = ⟨hp, g, d, tk, os⟩ ∧ ∃ i, rest = (items.toList.zip items2.toList).drop i) _
  case turn =>
    rintro ⟨y, x⟩ rest b s' ⟨hb', rfl, i, hz⟩
    have hlt : i < (items.toList.zip items2.toList).length := by
      rcases Nat.lt_or_ge i (items.toList.zip items2.toList).length with h' | h'
      · exact h'
      · rw [List.drop_of_length_le h'] at hz; cases hz
    have h1 : i < items.size := hZ ▸ hlt
    have h2 : i < items2.size := hsz ▸ h1
    rw [List.drop_eq_getElem_cons hlt] at hz
    injection hz with hyx hrest
    have hy : y = items[i] := by have := congrArg Prod.fst hyx; simpa using this
    have hx : x = items2[i] := by have := congrArg Prod.snd hyx; simpa using this
    subst hy hx
    refine wpAny_bind (he i h1 h2 _ _ ?_)
    wp_walk
    exact ⟨rfl, rfl, i + 1, hrest⟩
  case fin =>
    rintro ⟨b1, b2⟩ s' ⟨hb', rfl, i, hz⟩
    simp only at hb'
    subst hb'
    wp_walk
    exact ⟨_, rfl, nofun, by simpa [Builtin.Tuple.tupleCompareSizes, hsz] using h⟩
  case h =>
    exact ⟨rfl, rfl, 0, rfl⟩
theorem EqP.refs {l b : Addr} (hne : l ≠ b) (h : ∀ (E Q : Value → Shared → Prop), Q (.bool true) s → wpAny (model prog w) A (richCompare .Eq (.ref l) (.ref b)) Q E s) : EqP prog w A s (.ref l) (.ref b) := fun E Q hq => by
  unfold eqBool
  refine wpAny_holding ?_
  refine wpAny_ite_split (fun hab => absurd (by have := eq_of_beq hab; injection this) hne) (fun _ => ?_)
  exact wpAny_bind (h E _ (wpAny_truthy_bool hq))
theorem EqP.self (v : Value) : EqP prog w A s v v := fun E Q h => SeqAt.EqAt.same v prog w E Q h
theorem EqP.int {a : Int} {t u : Tok} : EqP prog w A s (.int a t) (.int a u) := fun E Q h => SeqAt.EqAt.int_int a t a u prog w E Q (by rw [beq_self_eq_true]; exact h)
theorem EqP.str {a : Str} {t u : Tok} : EqP prog w A s (.str a t) (.str a u) := fun E Q h => SeqAt.EqAt.str_str a t a u prog w E Q (by rw [beq_self_eq_true]; exact h)
end
end Mine
end

section
open PySem PySem.W PyProof.Rows PySem.Calls PySem.Spec
set_option maxRecDepth 100000
namespace Mine
section
variable {w : World} {A : Around} {s : Shared} {h₀ : Heap} {L : Addr} {news : Led}
abbrev rgbT (r g b : Int) : List (PyData × PyData) := [(PyData.str (Str.ofString "red"), PyData.int r), (PyData.str (Str.ofString "green"), PyData.int g), (PyData.str (Str.ofString "blue"), PyData.int b)]
theorem rgb_rows (r g b : Int) : KeqRows (rgbT r g b) (rgbT r g b) true := by
  have h : KeqRows (rgbT r g b) (rgbT r g b) (PyData.eqv (.int r) (.int r) && (PyData.eqv (.int g) (.int g) && (PyData.eqv (.int b) (.int b) && true))) :=
    .hit (u := .int r) rfl (.hit (u := .int g) rfl (.hit (u := .int b) rfl .nil))
  have e : (PyData.eqv (.int r) (.int r) && (PyData.eqv (.int g) (.int g) && (PyData.eqv (.int b) (.int b) && true))) = true := by simp [PyData.eqv]
  rwa [e] at h
theorem eqP_dict {d d' : Addr} {o o' : Obj} {r g b : Int} (N : News h₀ L s.heap news) (h1 : (d, o) ∈ news) (h2 : (d', o') ∈ news) (e1 : (d == sysModules) = false) (e2 : (d' == sysModules) = false) (D1 : DictIs w o r g b) (D2 : DictIs w o' r g b) (hu : A.units + 8 < cLine) :
    EqP Challenge.rw_xg0063_01.row.prog w A s (.ref d) (.ref d') := by
  by_cases e : d = d'
  · subst e; exact EqP.self _
  · obtain ⟨k1, i1, f1⟩ := D1
    obtain ⟨k2, i2, f2⟩ := D2
    refine EqP.refs e fun E Q h => ?_
    show wpAny _ A (compareOp .Eq (.ref d) (.ref d')) Q E s
    exact keq_tabs PyProof.V.same_str ⟨e1, k1, Heap.dictOf_iff.mpr ⟨o, N.get h1, i1⟩, f1⟩ ⟨e2, k2, Heap.dictOf_iff.mpr ⟨o', N.get h2, i2⟩, f2⟩ rfl (by omega) (rgb_rows r g b) h
theorem eqP_entry {v v' : Value} {e : E7} (N : News h₀ L s.heap news) (H1 : EntIs w news v e) (H2 : EntIs w news v' e) (hu : A.units + 12 < cLine) : EqP Challenge.rw_xg0063_01.row.prog w A s v v' := by
  obtain ⟨t, d, o, n, k1, k2, k3, k4, rfl, m1, m2, m3, m4⟩ := H1
  obtain ⟨t', d', o', n', j1, j2, j3, j4, rfl, m1', m2', m3', m4'⟩ := H2
  by_cases e : t = t'
  · subst e; exact EqP.self _
  · refine EqP.refs e fun E Q h => eqP_tuples (items := #[.int _ k1, .int _ k2, .int _ k3, .int _ k4, .ref d]) (items2 := #[.int _ j1, .int _ j2, .int _ j3, .int _ j4, .ref d']) ⟨_, N.get m1, rfl, n, rfl⟩ ⟨_, N.get m1', rfl, n', rfl⟩ rfl (by omega) (fun j h1 h2 => ?_) h
    match j, h1, h2 with
    | 0, _, _ => exact EqP.int
    | 1, _, _ => exact EqP.int
    | 2, _, _ => exact EqP.int
    | 3, _, _ => exact EqP.int
    | 4, _, _ => exact eqP_dict N m2 m2' m3 m3' m4 m4' (by simp only; omega)
    | (_ + 5), h, _ => exact absurd h (by simp)
theorem ents_rc {op : CmpOp} {r : Bool} {v v' : Value} {e : E3} {E Q : Value → Shared → Prop} (hop : (op = .Eq ∧ r = true) ∨ (op = .NotEq ∧ r = false)) (N : News h₀ L s.heap news) (H1 : EntsE w news v e) (H2 : EntsE w news v' e) (hu : A.units + 16 < cLine) (h : Q (.bool r) s) :
    wpAny (model Challenge.rw_xg0063_01.row.prog w) A (richCompare op v v') Q E s := by
  obtain ⟨l, n, v0, v1, v2, rfl, m, a0, a1, a2⟩ := H1
  obtain ⟨l', n', v0', v1', v2', rfl, m', a0', a1', a2'⟩ := H2
  refine eqP_lists hop (items := #[v0, v1, v2]) (items2 := #[v0', v1', v2']) ⟨_, N.get m, rfl, n, rfl⟩ ⟨_, N.get m', rfl, n', rfl⟩ rfl (by omega) (fun j h1 h2 => ?_) h
  match j, h1, h2 with
  | 0, _, _ => exact eqP_entry N a0 a0' (by simp only; omega)
  | 1, _, _ => exact eqP_entry N a1 a1' (by simp only; omega)
  | 2, _, _ => exact eqP_entry N a2 a2' (by simp only; omega)
  | (_ + 3), h, _ => exact absurd h (by simp)
theorem ents_ne {v v' : Value} {e : E3} {E Q : Value → Shared → Prop} (N : News h₀ L s.heap news) (H1 : EntsE w news v e) (H2 : EntsE w news v' e) (hu : A.units + 64 < cLine) (h : Q (.bool false) s) :
    wpAny (model Challenge.rw_xg0063_01.row.prog w) A (compareOp .NotEq v v') Q E s := ents_rc (.inr ⟨rfl, rfl⟩) N H1 H2 (by omega) h
theorem told_eq {a b : Addr} {x : Str} {t t' : Tok} {n n' : Nat} {v v' : Value} {e : E3} {E Q : Value → Shared → Prop} (N : News h₀ L s.heap news) (ma : (a, tupOf [.str x t, v] n) ∈ news) (mb : (b, tupOf [.str x t', v'] n') ∈ news) (H1 : EntsE w news v e) (H2 : EntsE w news v' e)
    (hu : A.units + 64 < cLine) (h : Q (.bool true) s) : wpAny (model Challenge.rw_xg0063_01.row.prog w) A (compareOp .Eq (.ref a) (.ref b)) Q E s := by
  show wpAny _ A (richCompare .Eq (.ref a) (.ref b)) Q E s
  refine eqP_tuples (items := #[.str x t, v]) (items2 := #[.str x t', v']) ⟨_, N.get ma, rfl, n, rfl⟩ ⟨_, N.get mb, rfl, n', rfl⟩ rfl (by omega) (fun j h1 h2 => ?_) h
  match j, h1, h2 with
  | 0, _, _ => exact EqP.str
  | 1, _, _ =>
    show EqP _ w A.in1 s v v'
    have H1' := H1
    have H2' := H2
    obtain ⟨l, n, v0, v1, v2, rfl, _⟩ := H1'
    obtain ⟨l', n', v0', v1', v2', rfl, _⟩ := H2'
    by_cases e : l = l'
    · subst e; exact EqP.self _
    · exact EqP.refs e fun E Q h => ents_rc (.inl ⟨rfl, rfl⟩) N H1 H2 (by simp only; omega) h
  | (_ + 2), h, _ => exact absurd h (by simp)
end
end Mine
end

section
open PySem PySem.W PyProof.Rows PySem.Calls PySem.Spec
set_option maxRecDepth 100000
namespace Mine
theorem newsSwap {h₀ h : Heap} {L : Addr} {tl lit R : Led} (N : News h₀ L h (tl ++ (lit ++ R))) : News h₀ L h (lit ++ (tl ++ R)) := fun q hq => N q (by
  simp only [List.mem_append] at hq ⊢
  rcases hq with h | h | h
  · exact .inr (.inl h)
  · exact .inl h
  · exact .inr (.inr h))
/-- the pile's pieces by number -/
theorem pileH_of {h₀ h : Heap} {L : Addr} {news : Led} {vs : List Value} {wd : List Nat} (N : News h₀ L h news) (P : PileW news vs wd) : ∃ Ts vals, PileH h vs wd Ts vals := by
  have key : ∀ j, ∃ (T : Addr) (va : Array Value), j < vs.toArray.size → vs.toArray[j]? = some (.ref T) ∧ h.IsTuple T va ∧ ∃ t1 t2, va = #[.str sNil t1, .str ⟨#[wd.getD j 0]⟩ t2] := by
    intro j
    by_cases hj : j < vs.toArray.size
    · have hj' : j < vs.length := by simpa using hj
      obtain ⟨k, hk, t, n, t1, t2, e, hm⟩ := P.at (List.getElem?_eq_getElem hj')
      refine ⟨t, #[.str sNil t1, .str ⟨#[k]⟩ t2], fun _ => ⟨?_, ⟨_, (N _ hm).1, rfl, n, rfl⟩, t1, t2, ?_⟩⟩
      · rw [List.getElem?_toArray, List.getElem?_eq_getElem hj', e]
      · rw [List.getD_eq_getElem?_getD, hk]; rfl
    · exact ⟨0, #[], fun h => absurd h hj⟩
  refine ⟨fun j => (key j).choose, fun j => (key j).choose_spec.choose, P.length, fun j hj => ?_, fun j hj => ?_, fun j hj => ?_⟩
  · exact ((key j).choose_spec.choose_spec hj).1
  · exact ((key j).choose_spec.choose_spec hj).2.1
  · exact ((key j).choose_spec.choose_spec hj).2.2
theorem key77 (P : Params) : (K63 P).lookup 77 = none := by kernel_rfl
theorem k_grow {P : Params} {h : Heap} {ps : Array Value} (X : (K63 P).In h) : (K63 P).In (regrown h 77 ps) := fun b o e => by
  have hb : b ≠ 77 := by rintro rfl; rw [key77] at e; cases e
  exact (Heap.get?_update_other _ _ (Ne.symm hb)).trans (X b o e)
section
variable {h₀ h h' : Heap} {L : Addr} {m : Str → Option Value} {news : Led} {ps : Array Value} (h77 : h₀.get? 77 = some (PySem.W.X.tableObj #[])) (F : Fr h₀ L h m) (hk : ∀ b o, b ≠ 77 → h.get? b = some o → h'.get? b = some o)
include h77 in
theorem regrown_77 : (regrown h₀ 77 ps).get? 77 = some (PySem.W.X.tableObj ps) := Heap.get?_update_self _ h77 rfl
include h77 F hk
theorem fr_grow (h77' : h'.get? 77 = some (PySem.W.X.tableObj ps)) : Fr (regrown h₀ 77 ps) L h' m := by
  have hL : L ≠ 77 := Nat.ne_of_gt (Nat.lt_of_lt_of_le (Heap.lt_size h77) F.above)
  obtain ⟨o, es, ep, ho, hd, r⟩ := F.ns
  refine ⟨⟨o, es, ep, hk _ _ hL ho, hd, r⟩, fun b o e => ?_, by rw [show (regrown h₀ 77 ps).objs.size = h₀.objs.size from Heap.size_after_update ..]; exact F.above⟩
  by_cases hb : b = 77
  · subst hb
    rw [regrown_77 h77] at e
    cases e; exact h77'
  · exact hk _ _ hb (F.keep _ _ ((Heap.get?_update_other _ _ (Ne.symm hb)).symm.trans e))
theorem news_grow (N : News h₀ L h news) : News (regrown h₀ 77 ps) L h' news := fun q hq => by
  obtain ⟨a, b, c⟩ := N q hq
  have hb : q.1 ≠ 77 := fun e => by rw [e, h77] at c; cases c
  exact ⟨hk _ _ hb a, b, (Heap.get?_update_other _ _ (Ne.symm hb)).trans c⟩
end
section
variable {h₀ h : Heap} {L x y : Addr} {news : Led} {prog : Program} {w : World} {A : Around} {E : Value → Shared → Prop} {s : Shared} {Q : Value → Shared → Prop} {a1 a2 a3 b1 b2 b3 : Int} {t1 t2 t3 u1 u2 u3 : Tok} {n1 n2 : Nat}
theorem neInts3 (N : News h₀ L s.heap news) (h1 : (x, listOf [.int a1 t1, .int a2 t2, .int a3 t3].toArray n1) ∈ news) (h2 : (y, l3 b1 b2 b3 u1 u2 u3 n2) ∈ news) (e1 : a1 = b1) (e2 : a2 = b2) (e3 : a3 = b3) (hu : A.units + 64 < cLine) (h : Q (.bool false) s) :
    wpAny (model prog w) A (compareOp .NotEq (.ref x) (.ref y)) Q E s := by
  subst e1 e2 e3
  refine ke_ne_ints (xs := [.int a1 t1, .int a2 t2, .int a3 t3]) (ys := [.int a1 u1, .int a2 u2, .int a3 u3]) (ns := [a1, a2, a3]) (ms := [a1, a2, a3]) ⟨_, N.get h1, rfl, n1, rfl⟩ ⟨_, N.get h2, rfl, n2, rfl⟩ (.cons _ _ (.cons _ _ (.cons _ _ .nil))) (.cons _ _ (.cons _ _ (.cons _ _ .nil))) hu ?_
  simpa using h
end
section
variable {prog : Program} {w : World} {A : Around} {E : Value → Shared → Prop} {s : Shared} {Q : Value → Shared → Prop}
theorem neStr {x : Str} {t u : Tok} (h : Q (.bool false) s) : wpAny (model prog w) A (compareOp .NotEq (.str x t) (.str x u)) Q E s := by
  refine PyProof.Rows.ne_str ?_
  simpa using h
theorem neInt {a b : Int} {t u : Tok} (e : a = b) (h : Q (.bool false) s) : wpAny (model prog w) A (compareOp .NotEq (.int a t) (.int b u)) Q E s := by
  subst e
  refine PyProof.Rows.ne_int ?_
  simpa using h
end
end Mine
namespace Mine
theorem signs_nil : signs (PySem.Str.ofString "") := fun k hk => by
  have : (PySem.Str.ofString "").cps.toList = [] := by decide
  rw [this] at hk; cases hk
end Mine

namespace Mine
open PySem PySem.W PyProof.Rows
theorem old_grow {P : Params} {h₀ h' : Heap} {ps : Array Value} (X : (K63 P).In h₀) (h77 : h₀.get? 77 = some (PySem.W.X.tableObj #[])) (k : ∀ b o, (regrown h₀ 77 ps).get? b = some o → h'.get? b = some o) : OldK h₀ h' := by
  obtain ⟨vs, ho, h11⟩ : ∃ vs, (K63 P).lookup 81 = some { cls := .type "code", dict := none, data := .fields vs, slots := #[] } ∧ vs[11]? = some (.ref 77) := ⟨_, rfl, rfl⟩
  have ho' := X _ _ ho
  have t0 : h₀.TableAt 81 77 #[] := ⟨⟨_, vs, ho', rfl, rfl, h11⟩, h77⟩
  have e : ∀ b o, b ≠ 77 → h₀.get? b = some o → h'.get? b = some o := fun b o hb e => k _ _ ((Heap.get?_update_other _ _ (Ne.symm hb)).trans e)
  refine (OldK.refl h₀).step_table (c₀ := 81) (c := 81) (P := 77) (ps₀ := #[]) (ps := #[]) (more := ps) t0 t0 ⟨⟨_, vs, e _ _ (by decide) ho', rfl, rfl, h11⟩, ?_⟩ e (by decide)
  have q := k _ _ (regrown_77 (ps := ps) h77)
  rw [Array.empty_append]
  exact q
end Mine
end

section
open PySem PySem.W PyProof.Rows PySem.Calls PySem.Spec
set_option Elab.async false
set_option maxRecDepth 100000
set_option maxHeartbeats 8000000
namespace Mine
section
theorem law_two (w : World) (mean : ExcName → Option Value) (mg mb : Str → Option Value) (h₀ : Heap) (L fa : Addr) (cd : Value) (s : Shared) (v tt : Value) (m0 : Str → Option Value) (p D l : Addr) (vs : List Value) (od : Obj) (R : Led) (wd : List Nat) (a b c : Int) (ta tb tc tk : Tok) (n n1 : Nat) (Q : Flow → Shared → Prop) (E : Value → Shared → Prop) :
    (K63 w.params).In h₀ →
    Top view63 (looseW view63 [Str.ofString "ONE_THIRD", Str.ofString "ONE_SIXTH", Str.ofString "_Accumulator", Str.ofString "EXACT_TOKEN_TYPES"]) mean mg mb h₀ →
    h₀.get? 77 = some (PySem.W.X.tableObj #[]) → farOf h₀ 21 = true →
    Fr h₀ L s.heap (fun y => if y = Str.ofString "entries" then some v else if y = Str.ofString "pile" then some (.ref p) else if y = Str.ofString "text" then some (.str ⟨wd.toArray⟩ tk) else if y = Str.ofString "first" then some (.ref l) else m0 y) →
    News h₀ L s.heap ((p, pileO D vs n) :: (D, od) :: (l, l3 a b c ta tb tc n1) :: R) → AllBare s.gens → PileW R vs wd → PlainD od → EntsE w R v (entOf wd (a, b, c)) → Good wd 12 → LevOk [] 0 (a, b, c) →
    (∀ s', AllBare s'.gens → s'.os = s.os → OldK h₀ s'.heap → Q (.ret (.bool true)) s') →
    wpAny (model Challenge.rw_xg0063_01.row.prog w) (callerA.deeper (envOf d63.name d63.scope L fa cd)) (execs (d63.body.drop 6) (envOf d63.name d63.scope L fa cd)) Q E s := by
  k_fill
  intro X T h77 hfar F N G hpile hod hE hg hf hret
  have K0 := below_caller h₀
  obtain ⟨le, ne, v0, v1, v2, rfl, hle, E0, E1, E2⟩ := id hE
  have hS := sum_fold wd (sum_nil (f := (a, b, c)))
  rw [ent_fold wd hg.sg] at hS
  obtain ⟨hs1, hs2, hs3⟩ := hS
  replace hs1 : (entOf wd (a, b, c)).1.r + (entOf wd (a, b, c)).1.g + (entOf wd (a, b, c)).1.b = (lightN wd (a, b, c)).1 := hs1
  replace hs2 : (entOf wd (a, b, c)).2.1.r + (entOf wd (a, b, c)).2.1.g + (entOf wd (a, b, c)).2.1.b = (lightN wd (a, b, c)).2.1 := hs2
  replace hs3 : (entOf wd (a, b, c)).2.2.r + (entOf wd (a, b, c)).2.2.g + (entOf wd (a, b, c)).2.2.b = (lightN wd (a, b, c)).2.2 := hs3
  generalize (entOf wd (a, b, c)).1 = e0 at E0 hs1
  generalize (entOf wd (a, b, c)).2.1 = e1 at E1 hs2
  generalize (entOf wd (a, b, c)).2.2 = e2 at E2 hs3
  obtain ⟨t0, x0, d0, o0, rfl, m0', md0, s0, D0⟩ := E0.opened
  obtain ⟨t1, x1, d1, o1, rfl, m1, md1, s1, D1⟩ := E1.opened
  obtain ⟨t2, x2, d2, o2, rfl, m2, md2, s2, D2⟩ := E2.opened
  clear E0 E1 E2
  replace N := newsPick (less := (le, listOf [.ref t0, .ref t1, .ref t2].toArray ne) :: (t0, _) :: (d0, o0) :: (t1, _) :: (d1, o1) :: (t2, _) :: (d2, o2) :: (p, pileO D vs n) :: (D, od) :: (l, l3 a b c ta tb tc n1) :: R) N (by
    have q : ∀ x, x ∈ R → x ∈ ((p, pileO D vs n) :: (D, od) :: (l, l3 a b c ta tb tc n1) :: R) := fun x h => .tail _ (.tail _ (.tail _ h))
    exact List.forall_mem_cons.mpr ⟨q _ hle, List.forall_mem_cons.mpr ⟨q _ m0', List.forall_mem_cons.mpr ⟨q _ md0, List.forall_mem_cons.mpr ⟨q _ m1, List.forall_mem_cons.mpr ⟨q _ md1, List.forall_mem_cons.mpr ⟨q _ m2, List.forall_mem_cons.mpr ⟨q _ md2, fun _ h => h⟩⟩⟩⟩⟩⟩⟩)
  clear hle m0' md0 m1 md1 m2 md2
  repeat' (first | (k_unfold; (try dsimp only)) | (k_end; wrow_close) | ((with_reducible show wpAny _ _ (compareOp CmpOp.Eq (Value.ref _) (Value.ref _)) _ _ _); (with_reducible (k_here; with_unfolding_all ( refine' told_eq ?zqN ?zqh1 ?zqh2 ?zqh3 ?zqh4 ?zqu ?_; (case zqN => k_asm); (case zqh2 => exact List.Mem.head _); (case zqh1 => (repeat (first | exact List.Mem.head _ | apply List.Mem.tail | (apply List.mem_append_left; assumption) | apply List.mem_append_right))); (case zqh3 => refine EntsE.mono (by assumption) ?_; (intro p hp; repeat (first | exact hp | apply List.Mem.tail | exact List.mem_append_left _ hp | apply List.mem_append_right))); (case zqh4 => refine EntsE.mono (by assumption) ?_; (intro p hp; repeat (first | exact hp | apply List.Mem.tail | exact List.mem_append_left _ hp | apply List.mem_append_right))); (case zqu => exact (show 4 + 3 + 64 < cLine by decide))))); (first | (with_reducible show wpAny _ _ (subscriptTail _ _ _ (Value.ref _)) _ _ _) | (with_reducible show wpAny _ _ (setItem _ (Value.ref _) _) _ _ _) | dsimp only | skip)) | ((with_reducible show wpAny _ _ (compareOp CmpOp.NotEq (Value.ref _) (Value.ref _)) _ _ _); (with_reducible (k_here; with_unfolding_all (first | (refine' neInts3 ?zqN ?zqh1 ?zqh2 ?zqe1 ?zqe2 ?zqe3 ?zqu ?_; (case zqN => k_asm); (case zqh1 => k_mem); (case zqh2 => k_mem); (case zqe1 => assumption); (case zqe2 => assumption); (case zqe3 => assumption); (case zqu => exact (show 4 + 3 + 64 < cLine by decide))) | (refine' ents_ne ?zqN ?zqh1 ?zqh2 ?zqu ?_; (case zqN => k_asm); (case zqh1 => refine EntsE.mono (by assumption) ?_; (intro p hp; repeat (first | exact hp | apply List.Mem.tail | exact List.mem_append_left _ hp | apply List.mem_append_right))); (case zqh2 => refine EntsE.mono (by assumption) ?_; (intro p hp; repeat (first | exact hp | apply List.Mem.tail | exact List.mem_append_left _ hp | apply List.mem_append_right))); (case zqu => exact (show 4 + 3 + 64 < cLine by decide)))))); (first | (with_reducible show wpAny _ _ (subscriptTail _ _ _ (Value.ref _)) _ _ _) | (with_reducible show wpAny _ _ (setItem _ (Value.ref _) _) _ _ _) | dsimp only | skip)) | ((with_reducible show wpAny _ _ (compareOp CmpOp.NotEq (Value.int _ _) (Value.int _ _)) _ _ _); (with_reducible (k_here; with_unfolding_all (refine neInt (by assumption) ?_))); (first | (with_reducible show wpAny _ _ (subscriptTail _ _ _ (Value.ref _)) _ _ _) | (with_reducible show wpAny _ _ (setItem _ (Value.ref _) _) _ _ _) | dsimp only | skip)) | ((with_reducible show wpAny _ _ (compareOp CmpOp.NotEq (Value.str _ _) (Value.str _ _)) _ _ _); (with_reducible (k_here; with_unfolding_all (refine neStr ?_))); (first | (with_reducible show wpAny _ _ (subscriptTail _ _ _ (Value.ref _)) _ _ _) | (with_reducible show wpAny _ _ (setItem _ (Value.ref _) _) _ _ _) | dsimp only | skip)) | ((with_reducible show wpAny _ _ (call (Value.ref _) _) _ _ _); (with_reducible (k_here; (with_reducible show wpAny _ _ (call (Value.ref 209) _) _ _ _); with_unfolding_all ( refine' (told_does _ _ _ _ _ _ _ _ ?zqa1 ?zqa2 ?zqa3) _ _ _ _ _ _ _ _ _ _ _ _ _ _ _ _ _ _ ?zqk1 ?zqk2 ?zqk3 ?zqk4 ?zqk5 ?zqk6 ?zqk7 ?zqk8 ?zqk9 ?_; (case zqk1 => k_asm); (case zqk2 => k_asm); (case zqk3 => k_asm); (case zqk4 => k_asm); (case zqk5 => k_asm); (case zqk6 => first | exact rfl | assumption); (case zqa1 => assumption); (case zqa2 => assumption); (case zqa3 => assumption); (case zqk7 => (intro p hp; repeat (first | exact hp | apply List.Mem.tail | exact List.mem_append_left _ hp | apply List.mem_append_right))); (case zqk8 => ktr_room); (case zqk9 => ktr_units); intro r9 tl9 h9 tk9 F9 N9 out9; obtain ⟨t9, n9, u9, v9, e9, hm9, E9⟩ := out9; subst e9; (first | (replace N9 := newsSwap (lit := [_, _, _, _, _, _, _, _, _, _, _, _, _]) N9) | (replace N9 := newsSwap (lit := [_, _, _, _, _, _, _, _, _, _, _, _]) N9) | (replace N9 := newsSwap (lit := [_, _, _, _, _, _, _, _, _, _, _]) N9) | (replace N9 := newsSwap (lit := [_, _, _, _, _, _, _, _, _, _]) N9)); (try dsimp only [List.cons_append, List.nil_append] at N9); (try dsimp only); (try k_fold)))); (first | (with_reducible show wpAny _ _ (subscriptTail _ _ _ (Value.ref _)) _ _ _) | (with_reducible show wpAny _ _ (setItem _ (Value.ref _) _) _ _ _) | dsimp only | skip)) | ((with_reducible show wpAny _ _ (call (Value.ref _) _) _ _ _); (with_reducible (k_here; (with_reducible show wpAny _ _ (call (Value.ref 185) _) _ _ _); with_unfolding_all ( refine' Does.use (entries_does _ _ _ _ _ _ _ _ _ _ _ _ _ _ ?zqh1 ?zqh2 ?zqh3 ?zqh4) ?zqk1 ?zqk2 ?zqk3 ?zqk4 ?zqk5 ?zqk6 ?zqk7 ?zqk8 ?zqk9 ?_; (case zqk1 => k_asm); (case zqk2 => k_asm); (case zqk3 => k_asm); (case zqk4 => k_asm); (case zqk5 => k_asm); (case zqk6 => first | exact rfl | assumption); (case zqk7 => (repeat' (first | exact List.forall_mem_nil _ | refine List.forall_mem_cons.mpr ⟨by k_mem, ?_⟩))); (case zqh1 => first | assumption | exact signs_nil); (case zqh2 => assumption); (case zqh3 => assumption); (case zqh4 => assumption); (case zqk8 => ktr_room); (case zqk9 => ktr_units); intro r9 tl9 h9 tk9 F9 N9 hl9 ho9; obtain ⟨l9, n9, a9, b9, c9, e9, hm9⟩ := id ho9; subst e9; clear hl9 hm9; (first | (replace N9 := newsSwap (lit := [_, _, _, _, _, _, _, _, _, _, _, _, _]) N9) | (replace N9 := newsSwap (lit := [_, _, _, _, _, _, _, _, _, _, _, _]) N9) | (replace N9 := newsSwap (lit := [_, _, _, _, _, _, _, _, _, _, _]) N9) | (replace N9 := newsSwap (lit := [_, _, _, _, _, _, _, _, _, _]) N9)); (try dsimp only [List.cons_append, List.nil_append] at N9); (try dsimp only); (try k_fold)))); (first | (with_reducible show wpAny _ _ (subscriptTail _ _ _ (Value.ref _)) _ _ _) | (with_reducible show wpAny _ _ (setItem _ (Value.ref _) _) _ _ _) | dsimp only | skip)) | ((with_reducible show wpAny _ _ (call (Value.ref _) _) _ _ _); (with_reducible (k_here; (with_reducible show wpAny _ _ (call (Value.ref 178) _) _ _ _); with_unfolding_all ( refine' Does.use (light_does _ _ _ _ _ _ _ _ _ _ _ _ _ _ ?zqh1) ?zqk1 ?zqk2 ?zqk3 ?zqk4 ?zqk5 ?zqk6 ?zqk7 ?zqk8 ?zqk9 ?_; (case zqk1 => k_asm); (case zqk2 => k_asm); (case zqk3 => k_asm); (case zqk4 => k_asm); (case zqk5 => k_asm); (case zqk6 => first | exact rfl | assumption); (case zqk7 => (repeat' (first | exact List.forall_mem_nil _ | refine List.forall_mem_cons.mpr ⟨by k_mem, ?_⟩))); (case zqh1 => assumption); (case zqk8 => ktr_room); (case zqk9 => ktr_units); intro r9 tl9 h9 tk9 F9 N9 hl9 ho9; obtain ⟨t9, n9, u1, u2, u3, e9, hm9⟩ := ho9; subst e9; (have l9 := apartOf hl9 hm9); (replace N9 := newsPick (less := (t9, _) :: _) N9 (List.forall_mem_cons.mpr ⟨List.mem_append_left _ hm9, fun _ h => List.mem_append_right _ h⟩)); clear hl9 hm9; (try dsimp only); (try k_fold)))); (first | (with_reducible show wpAny _ _ (subscriptTail _ _ _ (Value.ref _)) _ _ _) | (with_reducible show wpAny _ _ (setItem _ (Value.ref _) _) _ _ _) | dsimp only | skip)) | ((with_reducible show wpAny _ _ (call (Value.ref _) _) _ _ _); (with_reducible (k_here; (with_reducible show wpAny _ _ (call (Value.ref 133) _) _ _ _); with_unfolding_all ( refine' Does.use (count_does _ _ _ _ _ _ _ _ _ ?zqh1 ?zqh2) ?zqk1 ?zqk2 ?zqk3 ?zqk4 ?zqk5 ?zqk6 ?zqk7 ?zqk8 ?zqk9 ?_; (case zqk1 => k_asm); (case zqk2 => k_asm); (case zqk3 => k_asm); (case zqk4 => k_asm); (case zqk5 => k_asm); (case zqk6 => first | exact rfl | assumption); (case zqk7 => (repeat' (first | exact List.forall_mem_nil _ | refine List.forall_mem_cons.mpr ⟨by k_mem, ?_⟩))); (case zqh1 => assumption); (case zqh2 => assumption); (case zqk8 => ktr_room); (case zqk9 => ktr_units); intro r9 tl9 h9 tk9 F9 N9 hl9 ho9; obtain ⟨t9, e9⟩ := ho9; subst e9; (replace N9 := newsPick (less := _) N9 (fun _ h => List.mem_append_right _ h)); clear hl9; (try dsimp only); (try k_fold)))); (first | (with_reducible show wpAny _ _ (subscriptTail _ _ _ (Value.ref _)) _ _ _) | (with_reducible show wpAny _ _ (setItem _ (Value.ref _) _) _ _ _) | dsimp only | skip)) | ((with_reducible show wpAny _ _ (call (Value.ref _) _) _ _ _); (with_reducible (k_here; (with_reducible show wpAny _ _ (call (Value.ref 105) _) _ _ _); with_unfolding_all ( refine' Does.use (count_pile _ _ _ _ _ _ _ _ _) ?zqk1 ?zqk2 ?zqk3 ?zqk4 ?zqk5 ?zqk6 ?zqk7 ?zqk8 ?zqk9 ?_; (case zqk1 => k_asm); (case zqk2 => k_asm); (case zqk3 => k_asm); (case zqk4 => k_asm); (case zqk5 => k_asm); (case zqk6 => first | exact rfl | assumption); (case zqk7 => (repeat' (first | exact List.forall_mem_nil _ | refine List.forall_mem_cons.mpr ⟨by k_mem, ?_⟩)));  (case zqk8 => ktr_room); (case zqk9 => ktr_units); intro r9 tl9 h9 tk9 F9 N9 hl9 ho9; obtain ⟨t9, e9⟩ := ho9; subst e9; (replace N9 := newsPick (less := _) N9 (fun _ h => List.mem_append_right _ h)); clear hl9; (try dsimp only); (try k_fold)))); (first | (with_reducible show wpAny _ _ (subscriptTail _ _ _ (Value.ref _)) _ _ _) | (with_reducible show wpAny _ _ (setItem _ (Value.ref _) _) _ _ _) | dsimp only | skip)) | ((with_reducible show wpAny _ _ (getMethod (Value.ref _) _ _) _ _ _); (with_reducible (k_here; with_unfolding_all (refine' pileMeth (name := Str.ofString "part_count") (P := _) (f := .ref 105) (t := .type "function") ?zqh1 ?zqh2 ?zqh3 ?zqh4 ?zqh5 ?zqh6 ?zqh7 ?zqh8 ?zqh9 ?zqh10 ?_; (case zqh1 => k_asm); (case zqh2 => k_asm); (case zqh3 => k_asm); (case zqh4 => k_mem); (case zqh5 => k_mem); (case zqh6 => assumption); (case zqh7 => kernel_rfl); (case zqh8 => kernel_rfl); (case zqh9 => decide +kernel); (case zqh10 => decide +kernel)))); (first | (with_reducible show wpAny _ _ (subscriptTail _ _ _ (Value.ref _)) _ _ _) | (with_reducible show wpAny _ _ (setItem _ (Value.ref _) _) _ _ _) | dsimp only | skip)) | ((with_reducible show wpAny _ _ (call (Value.builtin "len") _) _ _ _); (with_reducible (k_here; with_unfolding_all (refine lenW (by assumption) ?_))); (first | (with_reducible show wpAny _ _ (subscriptTail _ _ _ (Value.ref _)) _ _ _) | (with_reducible show wpAny _ _ (setItem _ (Value.ref _) _) _ _ _) | dsimp only | skip)) | ((with_reducible show wpAny _ _ (call (Value.type "str") _) _ _ _); (with_reducible (k_here; refine Halt.out ?_)); (first | (with_reducible show wpAny _ _ (subscriptTail _ _ _ (Value.ref _)) _ _ _) | (with_reducible show wpAny _ _ (setItem _ (Value.ref _) _) _ _ _) | dsimp only | skip)) | ((with_reducible show LCg.CompEnd _ _ _ _ _ _ _ _ _ _ _ _ _ _); ((refine LCg.CompEnd.intro (by assumption) (by assumption) _ (fun p hp => hp) (by assumption) (by lcg_src) ?_)); (first | (with_reducible show wpAny _ _ (subscriptTail _ _ _ (Value.ref _)) _ _ _) | (with_reducible show wpAny _ _ (setItem _ (Value.ref _) _) _ _ _) | dsimp only | skip)) | (walk1; (first | (with_reducible show wpAny _ _ (subscriptTail _ _ _ (Value.ref _)) _ _ _) | (with_reducible show wpAny _ _ (setItem _ (Value.ref _) _) _ _ _) | dsimp only | skip)) | (dsimp only; walk1) | (leave1; (try dsimp only)) | fail "no step")
  refine Halt.go ?_
  obtain ⟨Ts, vals, hp⟩ := pileH_of N (hpile.mono fun q h => .tail _ (.tail _ (.tail _ (.tail _ (.tail _ (.tail _ (.tail _ (.tail _ (.tail _ (.tail _ h))))))))))
  have I : PileAt s.heap p D vs n od := ⟨(N (p, pileO D vs n) (by k_mem)).1, (N (D, od) (by k_mem)).1⟩
  refine str_does rfl ?q1 ?q2 (X.keeps F.keep) (T.keeps F.keep) G (F.keep _ _ h77) I hp hg.len ?_
  case q1 => exact (show 1 + claimMargin + 1 + 8 < recursionLimit by decide)
  case q2 => exact (show 4 + 3 + 64 < cLine by decide)
  rintro t ⟨h', gs', dr', tk', os'⟩ ps hk h77' G' os9
  dsimp only at hk h77' G' os9
  have X' := k_grow (ps := ps) X
  have T' := top_grow (ps := ps) X h77 hfar T
  have F' := fr_grow h77 F hk h77'
  have N' := news_grow (ps := ps) h77 F hk N
  have X0 := X
  have h77c := h77
  clear X T F N I hp h77 K0 hk h77' hfar
  have K0 := below_caller (regrown h₀ 77 ps)
  have hOld := fun h' k => old_grow (h' := h') (ps := ps) X0 h77c k
  generalize regrown h₀ 77 ps = h₁ at X' T' F' N' K0 hOld
  clear X0 h77c
  have hln : (vs.length : Int) = (wd.length : Int) := by rw [hpile.length]
  have hw20 : wd.length ≤ 20 := Nat.le_trans hg.len (by decide)
  have hsg : signs ⟨wd.toArray⟩ := fun k hk => hg.sg k (by simpa using hk)
  have b1 : 0 ≤ a ∧ a ≤ 16 := ⟨Int.le_of_lt hf.p1, by have := hf.b1; simpa using this⟩
  have b2 : 0 ≤ b ∧ b ≤ 16 := ⟨Int.le_of_lt hf.p2, by have := hf.b2; simpa using this⟩
  have b3 : 0 ≤ c ∧ c ≤ 16 := ⟨Int.le_of_lt hf.p3, by have := hf.b3; simpa using this⟩
  (try dsimp only)
  repeat' (first | (k_unfold; (try dsimp only)) | (k_end; wrow_close) | ((with_reducible show wpAny _ _ (compareOp CmpOp.Eq (Value.ref _) (Value.ref _)) _ _ _); (with_reducible (k_here; with_unfolding_all ( refine' told_eq ?zqN ?zqh1 ?zqh2 ?zqh3 ?zqh4 ?zqu ?_; (case zqN => k_asm); (case zqh2 => exact List.Mem.head _); (case zqh1 => (repeat (first | exact List.Mem.head _ | apply List.Mem.tail | (apply List.mem_append_left; assumption) | apply List.mem_append_right))); (case zqh3 => refine EntsE.mono (by assumption) ?_; (intro p hp; repeat (first | exact hp | apply List.Mem.tail | exact List.mem_append_left _ hp | apply List.mem_append_right))); (case zqh4 => refine EntsE.mono (by assumption) ?_; (intro p hp; repeat (first | exact hp | apply List.Mem.tail | exact List.mem_append_left _ hp | apply List.mem_append_right))); (case zqu => exact (show 4 + 3 + 64 < cLine by decide))))); (first | (with_reducible show wpAny _ _ (subscriptTail _ _ _ (Value.ref _)) _ _ _) | (with_reducible show wpAny _ _ (setItem _ (Value.ref _) _) _ _ _) | dsimp only | skip)) | ((with_reducible show wpAny _ _ (compareOp CmpOp.NotEq (Value.ref _) (Value.ref _)) _ _ _); (with_reducible (k_here; with_unfolding_all (first | (refine' neInts3 ?zqN ?zqh1 ?zqh2 ?zqe1 ?zqe2 ?zqe3 ?zqu ?_; (case zqN => k_asm); (case zqh1 => k_mem); (case zqh2 => k_mem); (case zqe1 => assumption); (case zqe2 => assumption); (case zqe3 => assumption); (case zqu => exact (show 4 + 3 + 64 < cLine by decide))) | (refine' ents_ne ?zqN ?zqh1 ?zqh2 ?zqu ?_; (case zqN => k_asm); (case zqh1 => refine EntsE.mono (by assumption) ?_; (intro p hp; repeat (first | exact hp | apply List.Mem.tail | exact List.mem_append_left _ hp | apply List.mem_append_right))); (case zqh2 => refine EntsE.mono (by assumption) ?_; (intro p hp; repeat (first | exact hp | apply List.Mem.tail | exact List.mem_append_left _ hp | apply List.mem_append_right))); (case zqu => exact (show 4 + 3 + 64 < cLine by decide)))))); (first | (with_reducible show wpAny _ _ (subscriptTail _ _ _ (Value.ref _)) _ _ _) | (with_reducible show wpAny _ _ (setItem _ (Value.ref _) _) _ _ _) | dsimp only | skip)) | ((with_reducible show wpAny _ _ (compareOp CmpOp.NotEq (Value.int _ _) (Value.int _ _)) _ _ _); (with_reducible (k_here; with_unfolding_all (refine neInt (by assumption) ?_))); (first | (with_reducible show wpAny _ _ (subscriptTail _ _ _ (Value.ref _)) _ _ _) | (with_reducible show wpAny _ _ (setItem _ (Value.ref _) _) _ _ _) | dsimp only | skip)) | ((with_reducible show wpAny _ _ (compareOp CmpOp.NotEq (Value.str _ _) (Value.str _ _)) _ _ _); (with_reducible (k_here; with_unfolding_all (refine neStr ?_))); (first | (with_reducible show wpAny _ _ (subscriptTail _ _ _ (Value.ref _)) _ _ _) | (with_reducible show wpAny _ _ (setItem _ (Value.ref _) _) _ _ _) | dsimp only | skip)) | ((with_reducible show wpAny _ _ (call (Value.ref _) _) _ _ _); (with_reducible (k_here; (with_reducible show wpAny _ _ (call (Value.ref 209) _) _ _ _); with_unfolding_all ( refine' (told_does _ _ _ _ _ _ _ _ ?zqa1 ?zqa2 ?zqa3) _ _ _ _ _ _ _ _ _ _ _ _ _ _ _ _ _ _ ?zqk1 ?zqk2 ?zqk3 ?zqk4 ?zqk5 ?zqk6 ?zqk7 ?zqk8 ?zqk9 ?_; (case zqk1 => k_asm); (case zqk2 => k_asm); (case zqk3 => k_asm); (case zqk4 => k_asm); (case zqk5 => k_asm); (case zqk6 => first | exact rfl | assumption); (case zqa1 => assumption); (case zqa2 => assumption); (case zqa3 => assumption); (case zqk7 => (intro p hp; repeat (first | exact hp | apply List.Mem.tail | exact List.mem_append_left _ hp | apply List.mem_append_right))); (case zqk8 => ktr_room); (case zqk9 => ktr_units); intro r9 tl9 h9 tk9 F9 N9 out9; obtain ⟨t9, n9, u9, v9, e9, hm9, E9⟩ := out9; subst e9; (first | (replace N9 := newsSwap (lit := [_, _, _, _, _, _, _, _, _, _, _, _, _]) N9) | (replace N9 := newsSwap (lit := [_, _, _, _, _, _, _, _, _, _, _, _]) N9) | (replace N9 := newsSwap (lit := [_, _, _, _, _, _, _, _, _, _, _]) N9) | (replace N9 := newsSwap (lit := [_, _, _, _, _, _, _, _, _, _]) N9)); (try dsimp only [List.cons_append, List.nil_append] at N9); (try dsimp only); (try k_fold)))); (first | (with_reducible show wpAny _ _ (subscriptTail _ _ _ (Value.ref _)) _ _ _) | (with_reducible show wpAny _ _ (setItem _ (Value.ref _) _) _ _ _) | dsimp only | skip)) | ((with_reducible show wpAny _ _ (call (Value.ref _) _) _ _ _); (with_reducible (k_here; (with_reducible show wpAny _ _ (call (Value.ref 185) _) _ _ _); with_unfolding_all ( refine' Does.use (entries_does _ _ _ _ _ _ _ _ _ _ _ _ _ _ ?zqh1 ?zqh2 ?zqh3 ?zqh4) ?zqk1 ?zqk2 ?zqk3 ?zqk4 ?zqk5 ?zqk6 ?zqk7 ?zqk8 ?zqk9 ?_; (case zqk1 => k_asm); (case zqk2 => k_asm); (case zqk3 => k_asm); (case zqk4 => k_asm); (case zqk5 => k_asm); (case zqk6 => first | exact rfl | assumption); (case zqk7 => (repeat' (first | exact List.forall_mem_nil _ | refine List.forall_mem_cons.mpr ⟨by k_mem, ?_⟩))); (case zqh1 => first | assumption | exact signs_nil); (case zqh2 => assumption); (case zqh3 => assumption); (case zqh4 => assumption); (case zqk8 => ktr_room); (case zqk9 => ktr_units); intro r9 tl9 h9 tk9 F9 N9 hl9 ho9; obtain ⟨l9, n9, a9, b9, c9, e9, hm9⟩ := id ho9; subst e9; clear hl9 hm9; (first | (replace N9 := newsSwap (lit := [_, _, _, _, _, _, _, _, _, _, _, _, _]) N9) | (replace N9 := newsSwap (lit := [_, _, _, _, _, _, _, _, _, _, _, _]) N9) | (replace N9 := newsSwap (lit := [_, _, _, _, _, _, _, _, _, _, _]) N9) | (replace N9 := newsSwap (lit := [_, _, _, _, _, _, _, _, _, _]) N9)); (try dsimp only [List.cons_append, List.nil_append] at N9); (try dsimp only); (try k_fold)))); (first | (with_reducible show wpAny _ _ (subscriptTail _ _ _ (Value.ref _)) _ _ _) | (with_reducible show wpAny _ _ (setItem _ (Value.ref _) _) _ _ _) | dsimp only | skip)) | ((with_reducible show wpAny _ _ (call (Value.ref _) _) _ _ _); (with_reducible (k_here; (with_reducible show wpAny _ _ (call (Value.ref 178) _) _ _ _); with_unfolding_all ( refine' Does.use (light_does _ _ _ _ _ _ _ _ _ _ _ _ _ _ ?zqh1) ?zqk1 ?zqk2 ?zqk3 ?zqk4 ?zqk5 ?zqk6 ?zqk7 ?zqk8 ?zqk9 ?_; (case zqk1 => k_asm); (case zqk2 => k_asm); (case zqk3 => k_asm); (case zqk4 => k_asm); (case zqk5 => k_asm); (case zqk6 => first | exact rfl | assumption); (case zqk7 => (repeat' (first | exact List.forall_mem_nil _ | refine List.forall_mem_cons.mpr ⟨by k_mem, ?_⟩))); (case zqh1 => assumption); (case zqk8 => ktr_room); (case zqk9 => ktr_units); intro r9 tl9 h9 tk9 F9 N9 hl9 ho9; obtain ⟨t9, n9, u1, u2, u3, e9, hm9⟩ := ho9; subst e9; (have l9 := apartOf hl9 hm9); (replace N9 := newsPick (less := (t9, _) :: _) N9 (List.forall_mem_cons.mpr ⟨List.mem_append_left _ hm9, fun _ h => List.mem_append_right _ h⟩)); clear hl9 hm9; (try dsimp only); (try k_fold)))); (first | (with_reducible show wpAny _ _ (subscriptTail _ _ _ (Value.ref _)) _ _ _) | (with_reducible show wpAny _ _ (setItem _ (Value.ref _) _) _ _ _) | dsimp only | skip)) | ((with_reducible show wpAny _ _ (call (Value.ref _) _) _ _ _); (with_reducible (k_here; (with_reducible show wpAny _ _ (call (Value.ref 133) _) _ _ _); with_unfolding_all ( refine' Does.use (count_does _ _ _ _ _ _ _ _ _ ?zqh1 ?zqh2) ?zqk1 ?zqk2 ?zqk3 ?zqk4 ?zqk5 ?zqk6 ?zqk7 ?zqk8 ?zqk9 ?_; (case zqk1 => k_asm); (case zqk2 => k_asm); (case zqk3 => k_asm); (case zqk4 => k_asm); (case zqk5 => k_asm); (case zqk6 => first | exact rfl | assumption); (case zqk7 => (repeat' (first | exact List.forall_mem_nil _ | refine List.forall_mem_cons.mpr ⟨by k_mem, ?_⟩))); (case zqh1 => assumption); (case zqh2 => assumption); (case zqk8 => ktr_room); (case zqk9 => ktr_units); intro r9 tl9 h9 tk9 F9 N9 hl9 ho9; obtain ⟨t9, e9⟩ := ho9; subst e9; (replace N9 := newsPick (less := _) N9 (fun _ h => List.mem_append_right _ h)); clear hl9; (try dsimp only); (try k_fold)))); (first | (with_reducible show wpAny _ _ (subscriptTail _ _ _ (Value.ref _)) _ _ _) | (with_reducible show wpAny _ _ (setItem _ (Value.ref _) _) _ _ _) | dsimp only | skip)) | ((with_reducible show wpAny _ _ (call (Value.ref _) _) _ _ _); (with_reducible (k_here; (with_reducible show wpAny _ _ (call (Value.ref 105) _) _ _ _); with_unfolding_all ( refine' Does.use (count_pile _ _ _ _ _ _ _ _ _) ?zqk1 ?zqk2 ?zqk3 ?zqk4 ?zqk5 ?zqk6 ?zqk7 ?zqk8 ?zqk9 ?_; (case zqk1 => k_asm); (case zqk2 => k_asm); (case zqk3 => k_asm); (case zqk4 => k_asm); (case zqk5 => k_asm); (case zqk6 => first | exact rfl | assumption); (case zqk7 => (repeat' (first | exact List.forall_mem_nil _ | refine List.forall_mem_cons.mpr ⟨by k_mem, ?_⟩)));  (case zqk8 => ktr_room); (case zqk9 => ktr_units); intro r9 tl9 h9 tk9 F9 N9 hl9 ho9; obtain ⟨t9, e9⟩ := ho9; subst e9; (replace N9 := newsPick (less := _) N9 (fun _ h => List.mem_append_right _ h)); clear hl9; (try dsimp only); (try k_fold)))); (first | (with_reducible show wpAny _ _ (subscriptTail _ _ _ (Value.ref _)) _ _ _) | (with_reducible show wpAny _ _ (setItem _ (Value.ref _) _) _ _ _) | dsimp only | skip)) | ((with_reducible show wpAny _ _ (getMethod (Value.ref _) _ _) _ _ _); (with_reducible (k_here; with_unfolding_all (refine' pileMeth (name := Str.ofString "part_count") (P := _) (f := .ref 105) (t := .type "function") ?zqh1 ?zqh2 ?zqh3 ?zqh4 ?zqh5 ?zqh6 ?zqh7 ?zqh8 ?zqh9 ?zqh10 ?_; (case zqh1 => k_asm); (case zqh2 => k_asm); (case zqh3 => k_asm); (case zqh4 => k_mem); (case zqh5 => k_mem); (case zqh6 => assumption); (case zqh7 => kernel_rfl); (case zqh8 => kernel_rfl); (case zqh9 => decide +kernel); (case zqh10 => decide +kernel)))); (first | (with_reducible show wpAny _ _ (subscriptTail _ _ _ (Value.ref _)) _ _ _) | (with_reducible show wpAny _ _ (setItem _ (Value.ref _) _) _ _ _) | dsimp only | skip)) | ((with_reducible show wpAny _ _ (call (Value.builtin "len") _) _ _ _); (with_reducible (k_here; with_unfolding_all (refine lenW (by assumption) ?_))); (first | (with_reducible show wpAny _ _ (subscriptTail _ _ _ (Value.ref _)) _ _ _) | (with_reducible show wpAny _ _ (setItem _ (Value.ref _) _) _ _ _) | dsimp only | skip)) | ((with_reducible show wpAny _ _ (call (Value.type "str") _) _ _ _); (with_reducible (k_here; refine Halt.out ?_)); (first | (with_reducible show wpAny _ _ (subscriptTail _ _ _ (Value.ref _)) _ _ _) | (with_reducible show wpAny _ _ (setItem _ (Value.ref _) _) _ _ _) | dsimp only | skip)) | ((with_reducible show LCg.CompEnd _ _ _ _ _ _ _ _ _ _ _ _ _ _); ((refine LCg.CompEnd.intro (by assumption) (by assumption) _ (fun p hp => hp) (by assumption) (by lcg_src) ?_)); (first | (with_reducible show wpAny _ _ (subscriptTail _ _ _ (Value.ref _)) _ _ _) | (with_reducible show wpAny _ _ (setItem _ (Value.ref _) _) _ _ _) | dsimp only | skip)) | (walk1; (first | (with_reducible show wpAny _ _ (subscriptTail _ _ _ (Value.ref _)) _ _ _) | (with_reducible show wpAny _ _ (setItem _ (Value.ref _) _) _ _ _) | dsimp only | skip)) | (dsimp only; walk1) | (leave1; (try dsimp only)) | fail "no step")
  rename Fr _ _ _ _ => F9
  exact hret _ G' os9 (hOld _ F9.keep)
end
end Mine
end

section
open PySem PySem.W PyProof.Rows PySem.Calls PySem.Spec
set_option Elab.async false
set_option maxRecDepth 100000
set_option maxHeartbeats 8000000
namespace Mine
section
theorem ents_run {w : World} {led : Led} {v : Value} {ns : List Int} {f : Int × Int × Int} (hs : ∀ k ∈ leftN ns, sgK k) (h : EntsE w led v (runN ns (entOf (Str.ofString "").cps.toList f)).2) : EntsE w led v (entOf (leftN ns) f) := by
  rw [runN_snd] at h
  rwa [show foldE (leftN ns) (entOf (Str.ofString "").cps.toList f) = entOf (leftN ns) f from ent_fold _ hs] at h
theorem law_one (w : World) (mean : ExcName → Option Value) (mg mb : Str → Option Value) (h₀ : Heap) (L fa : Addr) (cd : Value) (s : Shared) (u1 u2 : Value) (m0 : Str → Option Value) (d l : Addr) (ws : List Value) (ns : List Int) (a b c : Int) (ta tb tc : Tok) (n n1 : Nat) (Q : Flow → Shared → Prop) (E : Value → Shared → Prop) :
    (K63 w.params).In h₀ →
    Top view63 (looseW view63 [Str.ofString "ONE_THIRD", Str.ofString "ONE_SIXTH", Str.ofString "_Accumulator", Str.ofString "EXACT_TOKEN_TYPES"]) mean mg mb h₀ →
    h₀.get? 77 = some (PySem.W.X.tableObj #[]) → farOf h₀ 21 = true →
    Fr h₀ L s.heap (fun y => if y = Str.ofString "first" then some (.ref l) else if y = Str.ofString "sides" then some u1 else if y = Str.ofString "whole" then some u2 else if y = Str.ofString "drawn" then some (.ref d) else m0 y) →
    News h₀ L s.heap [(l, l3 a b c ta tb tc n1), (d, listOf ws.toArray n)] → AllBare s.gens → IntsAre ws ns → (∀ x ∈ ns, 0 ≤ x) → ns.length ≤ 12 → LevOk [] 0 (a, b, c) →
    (∀ s', AllBare s'.gens → s'.os = s.os → OldK h₀ s'.heap → Q (.ret (.bool true)) s') →
    wpAny (model Challenge.rw_xg0063_01.row.prog w) (callerA.deeper (envOf d63.name d63.scope L fa cd)) (execs (d63.body.drop 4) (envOf d63.name d63.scope L fa cd)) Q E s := by
  k_fill
  intro X T h77 hfar F N G hi hp hlen hf hret
  have K0 := below_caller h₀
  have b1 : 0 ≤ a ∧ a ≤ 16 := ⟨Int.le_of_lt hf.p1, by have := hf.b1; simpa using this⟩
  have b2 : 0 ≤ b ∧ b ≤ 16 := ⟨Int.le_of_lt hf.p2, by have := hf.b2; simpa using this⟩
  have b3 : 0 ≤ c ∧ c ≤ 16 := ⟨Int.le_of_lt hf.p3, by have := hf.b3; simpa using this⟩
  have hg0 := good_left ns
  have hg : Good (leftN ns) 12 := ⟨hg0.dbl, hg0.sg, Nat.le_trans hg0.len hlen⟩
  repeat' (first | (k_unfold; (try dsimp only)) | (k_end; wrow_close) | ((with_reducible show wpAny _ _ (call (Value.ref _) _) _ _ _); (with_reducible (k_here; (with_reducible show wpAny _ _ (call (Value.ref 204) _) _ _ _); with_unfolding_all ( refine' (run_does _ _ _ _ _ _ _ _ _ _ _ ?zqa1 ?zqa2 ?zqa3 ?zqa4) _ _ _ _ _ _ _ _ _ _ _ _ _ _ _ _ _ _ ?zqk1 ?zqk2 ?zqk3 ?zqk4 ?zqk5 ?zqk6 ?zqk7 ?zqk8 ?zqk9 ?_; (case zqk1 => k_asm); (case zqk2 => k_asm); (case zqk3 => k_asm); (case zqk4 => k_asm); (case zqk5 => k_asm); (case zqk6 => first | exact rfl | assumption); (case zqa1 => assumption); (case zqa2 => assumption); (case zqa3 => assumption); (case zqa4 => assumption); (case zqk7 => refine List.forall_mem_cons.mpr ⟨by k_mem, ?_⟩; (intro p hp; repeat (first | exact hp | apply List.Mem.tail | exact List.mem_append_left _ hp | apply List.mem_append_right))); (case zqk8 => ktr_room); (case zqk9 => ktr_units); intro r9 tl9 h9 tk9 F9 N9 out9; obtain ⟨t9, p9, D9, vs9, n9, od9, nt9, v9, e9, hm1, hm2, hm3, hod9, hpw9, hE9⟩ := out9; subst e9; (replace N9 := newsSwap (lit := [_, _, _]) N9); (try dsimp only [List.cons_append, List.nil_append] at N9); (replace N9 := newsPick (less := (t9, tupOf [.ref p9, v9] nt9) :: (p9, pileO D9 vs9 n9) :: (D9, od9) :: _) N9 (List.forall_mem_cons.mpr ⟨by (repeat (first | exact List.Mem.head _ | apply List.Mem.tail | (apply List.mem_append_left; assumption) | apply List.mem_append_right)), List.forall_mem_cons.mpr ⟨by (repeat (first | exact List.Mem.head _ | apply List.Mem.tail | (apply List.mem_append_left; assumption) | apply List.mem_append_right)), List.forall_mem_cons.mpr ⟨by (repeat (first | exact List.Mem.head _ | apply List.Mem.tail | (apply List.mem_append_left; assumption) | apply List.mem_append_right)), fun _ h => h⟩⟩⟩)); (try dsimp only); (try k_fold)))); (first | (with_reducible show wpAny _ _ (subscriptTail _ _ _ (Value.ref _)) _ _ _) | (with_reducible show wpAny _ _ (setItem _ (Value.ref _) _) _ _ _) | dsimp only | skip)) | ((with_reducible show wpAny _ _ (call (Value.ref _) _) _ _ _); (with_reducible (k_here; (with_reducible show wpAny _ _ (call (Value.ref 185) _) _ _ _); with_unfolding_all ( refine' Does.use (entries_does _ _ _ _ _ _ _ _ _ _ _ _ _ _ ?zqh1 ?zqh2 ?zqh3 ?zqh4) ?zqk1 ?zqk2 ?zqk3 ?zqk4 ?zqk5 ?zqk6 ?zqk7 ?zqk8 ?zqk9 ?_; (case zqk1 => k_asm); (case zqk2 => k_asm); (case zqk3 => k_asm); (case zqk4 => k_asm); (case zqk5 => k_asm); (case zqk6 => first | exact rfl | assumption); (case zqk7 => (repeat' (first | exact List.forall_mem_nil _ | refine List.forall_mem_cons.mpr ⟨by k_mem, ?_⟩))); (case zqh1 => exact signs_nil); (case zqh2 => assumption); (case zqh3 => assumption); (case zqh4 => assumption); (case zqk8 => ktr_room); (case zqk9 => ktr_units); intro r9 tl9 h9 tk9 F9 N9 hl9 ho9; clear hl9; (first | (replace N9 := newsSwap (lit := [_, _, _]) N9) | (replace N9 := newsSwap (lit := [_, _]) N9)); (try dsimp only [List.cons_append, List.nil_append] at N9); (try dsimp only); (try k_fold)))); (first | (with_reducible show wpAny _ _ (subscriptTail _ _ _ (Value.ref _)) _ _ _) | (with_reducible show wpAny _ _ (setItem _ (Value.ref _) _) _ _ _) | dsimp only | skip)) | ((with_reducible show wpAny _ _ (call (Value.ref _) _) _ _ _); (with_reducible (k_here; (with_reducible show wpAny _ _ (call (Value.ref 164) _) _ _ _); with_unfolding_all ( refine' Does.use (row_does _ _ _ _ _ _ _ _ ?zqh1 ?zqh2 ?zqh3) ?zqk1 ?zqk2 ?zqk3 ?zqk4 ?zqk5 ?zqk6 ?zqk7 ?zqk8 ?zqk9 ?_; (case zqk1 => k_asm); (case zqk2 => k_asm); (case zqk3 => k_asm); (case zqk4 => k_asm); (case zqk5 => k_asm); (case zqk6 => first | exact rfl | assumption); (case zqk7 => (repeat' (first | exact List.forall_mem_nil _ | refine List.forall_mem_cons.mpr ⟨by k_mem, ?_⟩))); (case zqh1 => assumption); (case zqh2 => assumption); (case zqh3 => assumption); (case zqk8 => ktr_room); (case zqk9 => ktr_units); intro r9 tl9 h9 tk9 F9 N9 hl9 ho9; obtain ⟨t9, n9, vs9, e9, hm9, hi9⟩ := ho9; subst e9; (have l9 := apartOf hl9 hm9); (replace N9 := newsPick (less := (t9, _) :: _) N9 (List.forall_mem_cons.mpr ⟨List.mem_append_left _ hm9, fun _ h => List.mem_append_right _ h⟩)); clear hl9 hm9; (try dsimp only); (try k_fold)))); (first | (with_reducible show wpAny _ _ (subscriptTail _ _ _ (Value.ref _)) _ _ _) | (with_reducible show wpAny _ _ (setItem _ (Value.ref _) _) _ _ _) | dsimp only | skip)) | ((with_reducible show wpAny _ _ (call (Value.ref _) _) _ _ _); (with_reducible (k_here; (with_reducible show wpAny _ _ (call (Value.ref 171) _) _ _ _); with_unfolding_all ( refine' Does.use (left_does _ _ _ _ _ _ _ _ ?zqh1 ?zqh2 ?zqh3) ?zqk1 ?zqk2 ?zqk3 ?zqk4 ?zqk5 ?zqk6 ?zqk7 ?zqk8 ?zqk9 ?_; (case zqk1 => k_asm); (case zqk2 => k_asm); (case zqk3 => k_asm); (case zqk4 => k_asm); (case zqk5 => k_asm); (case zqk6 => first | exact rfl | assumption); (case zqk7 => (repeat' (first | exact List.forall_mem_nil _ | refine List.forall_mem_cons.mpr ⟨by k_mem, ?_⟩))); (case zqh1 => assumption); (case zqh2 => assumption); (case zqh3 => assumption); (case zqk8 => ktr_room); (case zqk9 => ktr_units); intro r9 tl9 h9 tk9 F9 N9 hl9 ho9; obtain ⟨t9, e9⟩ := ho9; subst e9; (replace N9 := newsPick (less := _) N9 (fun _ h => List.mem_append_right _ h)); clear hl9; (try dsimp only); (try k_fold)))); (first | (with_reducible show wpAny _ _ (subscriptTail _ _ _ (Value.ref _)) _ _ _) | (with_reducible show wpAny _ _ (setItem _ (Value.ref _) _) _ _ _) | dsimp only | skip)) | ((with_reducible (k_here; (with_reducible show wpAny _ _ (execs (Stmt.If _ _ _ _ :: _) _) _ _ _); refine Halt.out ?_)); (first | (with_reducible show wpAny _ _ (subscriptTail _ _ _ (Value.ref _)) _ _ _) | (with_reducible show wpAny _ _ (setItem _ (Value.ref _) _) _ _ _) | dsimp only | skip)) | (walk1; (first | (with_reducible show wpAny _ _ (subscriptTail _ _ _ (Value.ref _)) _ _ _) | (with_reducible show wpAny _ _ (setItem _ (Value.ref _) _) _ _ _) | dsimp only | skip)) | (dsimp only; walk1) | (leave1; (try dsimp only)) | fail "no step")
  refine Halt.go ?_
  rename News _ _ _ _ => N2
  rename Fr _ _ _ _ => F2
  with_unfolding_all refine' law_two w mean mg mb h₀ L fa cd _ _ .none _ _ _ _ _ _ _ (leftN ns) a b c _ _ _ _ _ _ Q E X T h77 hfar F2 (newsPick N2 ?q) G (by assumption) (by assumption) (ents_run hg.sg (by assumption)) hg hf hret
  case q => exact List.forall_mem_cons.mpr ⟨by k_mem, List.forall_mem_cons.mpr ⟨by k_mem, List.forall_mem_cons.mpr ⟨by k_mem, by (intro p hp; repeat (first | exact hp | apply List.Mem.tail | exact List.mem_append_left _ hp | apply List.mem_append_right))⟩⟩⟩
end
end Mine
end

section
open PySem PySem.W PyProof.Rows PySem.Calls PySem.Spec
set_option Elab.async false
set_option maxRecDepth 100000
set_option maxHeartbeats 8000000
namespace Mine
theorem drawn_ok (zs : List Int) : (∀ x ∈ (zs.take 5).map (fun k : Int => k.fmod 720720) ++ [1, 2, 2, 0, 3, 2, 0], 0 ≤ x) ∧ ((zs.take 5).map (fun k : Int => k.fmod 720720) ++ [1, 2, 2, 0, 3, 2, 0]).length ≤ 12 := by
  refine ⟨fun x hx => ?_, ?_⟩
  · rcases List.mem_append.mp hx with h | h
    · obtain ⟨k, _, rfl⟩ := List.mem_map.mp h
      rw [Int.fmod_eq_emod_of_nonneg _ (by decide)]
      exact Int.emod_nonneg _ (by decide)
    · simp only [List.mem_cons, List.not_mem_nil, or_false] at h
      omega
  · rw [List.length_append, List.length_map, List.length_take]
    show min 5 zs.length + 7 ≤ 12
    omega
theorem sides_ok (z : Int) : LevOk [] 0 (1 + z.fmod 8 + (1 + (z.fdiv 8).fmod 8), 1 + (z.fdiv 8).fmod 8 + (1 + (z.fdiv 64).fmod 8), 1 + (z.fdiv 64).fmod 8 + (1 + z.fmod 8)) := by
  have key : ∀ y : Int, 0 ≤ y.fmod 8 ∧ y.fmod 8 < 8 := fun y => by
    rw [Int.fmod_eq_emod_of_nonneg _ (by decide)]
    exact ⟨Int.emod_nonneg _ (by decide), Int.emod_lt_of_pos _ (by decide)⟩
  have h1 := key z
  have h2 := key (z.fdiv 8)
  have h3 := key (z.fdiv 64)
  refine ⟨?_, ?_, ?_, ?_, ?_, ?_, fun _ => ?_, fun h => ?_, fun h => ?_, fun h => ?_⟩
  · dsimp only; omega
  · dsimp only; omega
  · dsimp only; omega
  · simp only [Int.pow_zero]; omega
  · simp only [Int.pow_zero]; omega
  · simp only [Int.pow_zero]; omega
  · dsimp only; omega
  · cases h
  · cases h
  · cases h
section
theorem law_walk : WalkO view63 loose63 (XL view63 lv63) (fun w h => (K63 w.params).In h ∧ h.get? 77 = some (PySem.W.X.tableObj #[]) ∧ farOf h 21 = true) PySem.Challenge.rw_xg0063_01.row.toRowW d63 [] (fun f vs => PySem.call f vs) := by
  k_fill
  intro w s₀ s₁ mg mb G Y fa o pm cd doc dV kV ho hd hcd hD hmg hg args vals as hpre hlay hrd hwl hlo
  have KX := Y.1
  have h77 := Y.2.1
  have hfar := Y.2.2
  have X := (Ground.X G).1
  have V := (Ground.X G).2
  refine Ground.open G ?_
  intro T B D TE TW
  try (refine guard_noD D (by decide +kernel) ?_; clear D)
  clear hmg
  wrow_args hpre hlay hrd hwl hlo
  rename_i zs _ _ _ _ _ _ _ sl svs _ hL _ _ _ hI _ hlen _
  refine enter_call ?_
  w_top on
  have K0 := below_caller (Top.heap T)
  w_call any ho hd hcd hD T F
  clear hd
  repeat' (first | (k_unfold; (try dsimp only)) | (k_end; wrow_close) | ((with_reducible (k_here; (with_reducible show wpAny _ _ (execs (Stmt.Assign [Expr.Name (Str.ofString "text") _] _ _ :: _) _) _ _ _); refine Halt.out ?_)); (first | (with_reducible show wpAny _ _ (subscriptTail _ _ _ (Value.ref _)) _ _ _) | (with_reducible show wpAny _ _ (setItem _ (Value.ref _) _) _ _ _) | dsimp only | skip)) | (walk1; (first | (with_reducible show wpAny _ _ (subscriptTail _ _ _ (Value.ref _)) _ _ _) | (with_reducible show wpAny _ _ (setItem _ (Value.ref _) _) _ _ _) | dsimp only | skip)) | (dsimp only; walk1) | (leave1; (try dsimp only)) | fail "no step")
  refine Halt.go ?_
  rename News _ _ _ _ => N2
  rename Fr _ _ _ _ => F2
  with_unfolding_all refine' law_one w _ mg mb s₁.heap s₁.heap.objs.size fa cd _ _ _ _ _ _ _ _ _ _ _ _ _ _ _ _ _ _ KX T h77 hfar F2 (newsPick N2 ?q) ?g (by assumption) ?p1 ?p2 ?p3 ?ret
  case q => exact List.forall_mem_cons.mpr ⟨by k_mem, List.forall_mem_cons.mpr ⟨by k_mem, List.forall_mem_nil _⟩⟩
  case g => exact AllBare.of_eq hg
  case p1 => exact (drawn_ok zs).1
  case p2 => exact (drawn_ok zs).2
  case p3 => exact sides_ok zs.sum
  case ret =>
    intro s' hg' os' old
    exact ⟨.inl ⟨.bool true, _, _, rfl, raisesW_false (by wrow_none_raised), readsW_of_reads (.bool true), postW_of (by wrow_shape) (by wtm_val) (by str_meet; first | done | w_fin), unshared_nil⟩, old, os', hg'⟩
end
theorem holds63 : PySem.Challenge.rw_xg0063_01.Holds := hd63 promised63 law_walk
end Mine
end

theorem PySem.Challenge.cw_xg0063_01_holds : PySem.Challenge.rw_xg0063_01.Holds :=
  Mine.holds63
