/-
  ZZaddClass (13), a kind each.
-/
import Derived.Test.Qxb6602360aAdd
import Derived.Test.Qxb6602360aZz
namespace Go.Proofs.Qxb6602360a
open Go.RowKit Cl

theorem z_alnum (x0 x1 x2 x3 : Nat) (h0 : x0 < 2 ^ 64) (h1 : x1 < 2 ^ 64) (w : World) :
    Calls Try.prog 13 #[.agg #[.int .u64 x0, .int .u64 x1, .int .u64 x2, .int .u64 x3], .string (ByteArray.mk #[97, 108, 110, 117, 109])] w (RZz (lo pAlnum x0) (hi pAlnum x1) x2 x3 true w) :=
  zz_of _ x0 x1 x2 x3 _ _ _ _ true w (cls_alnum (w.heap.size + 2) x0 x1 x2 x3 (W3 w x0 x1 x2 x3) (setAt_W3 w x0 x1 x2 x3) h0 h1)
theorem z_alpha (x0 x1 x2 x3 : Nat) (h0 : x0 < 2 ^ 64) (h1 : x1 < 2 ^ 64) (w : World) :
    Calls Try.prog 13 #[.agg #[.int .u64 x0, .int .u64 x1, .int .u64 x2, .int .u64 x3], .string (ByteArray.mk #[97, 108, 112, 104, 97])] w (RZz (lo isL x0) (hi isL x1) x2 x3 true w) :=
  zz_of _ x0 x1 x2 x3 _ _ _ _ true w (cls_alpha (w.heap.size + 2) x0 x1 x2 x3 (W3 w x0 x1 x2 x3) (setAt_W3 w x0 x1 x2 x3) h0 h1)
theorem z_blank (x0 x1 x2 x3 : Nat) (h0 : x0 < 2 ^ 64) (h1 : x1 < 2 ^ 64) (w : World) :
    Calls Try.prog 13 #[.agg #[.int .u64 x0, .int .u64 x1, .int .u64 x2, .int .u64 x3], .string (ByteArray.mk #[98, 108, 97, 110, 107])] w (RZz (lo pBlank x0) (hi pBlank x1) x2 x3 true w) :=
  zz_of _ x0 x1 x2 x3 _ _ _ _ true w (cls_blank (w.heap.size + 2) x0 x1 x2 x3 (W3 w x0 x1 x2 x3) (setAt_W3 w x0 x1 x2 x3) h0 h1)
theorem z_cntrl (x0 x1 x2 x3 : Nat) (h0 : x0 < 2 ^ 64) (h1 : x1 < 2 ^ 64) (w : World) :
    Calls Try.prog 13 #[.agg #[.int .u64 x0, .int .u64 x1, .int .u64 x2, .int .u64 x3], .string (ByteArray.mk #[99, 110, 116, 114, 108])] w (RZz (lo pCntrl x0) (hi pCntrl x1) x2 x3 true w) :=
  zz_of _ x0 x1 x2 x3 _ _ _ _ true w (cls_cntrl (w.heap.size + 2) x0 x1 x2 x3 (W3 w x0 x1 x2 x3) (setAt_W3 w x0 x1 x2 x3) h0 h1)
theorem z_digit (x0 x1 x2 x3 : Nat) (h0 : x0 < 2 ^ 64) (h1 : x1 < 2 ^ 64) (w : World) :
    Calls Try.prog 13 #[.agg #[.int .u64 x0, .int .u64 x1, .int .u64 x2, .int .u64 x3], .string (ByteArray.mk #[100, 105, 103, 105, 116])] w (RZz (lo isDg x0) (hi isDg x1) x2 x3 true w) :=
  zz_of _ x0 x1 x2 x3 _ _ _ _ true w (cls_digit (w.heap.size + 2) x0 x1 x2 x3 (W3 w x0 x1 x2 x3) (setAt_W3 w x0 x1 x2 x3) h0 h1)
theorem z_graph (x0 x1 x2 x3 : Nat) (h0 : x0 < 2 ^ 64) (h1 : x1 < 2 ^ 64) (w : World) :
    Calls Try.prog 13 #[.agg #[.int .u64 x0, .int .u64 x1, .int .u64 x2, .int .u64 x3], .string (ByteArray.mk #[103, 114, 97, 112, 104])] w (RZz (lo pGraph x0) (hi pGraph x1) x2 x3 true w) :=
  zz_of _ x0 x1 x2 x3 _ _ _ _ true w (cls_graph (w.heap.size + 2) x0 x1 x2 x3 (W3 w x0 x1 x2 x3) (setAt_W3 w x0 x1 x2 x3) h0 h1)
theorem z_lower (x0 x1 x2 x3 : Nat) (h0 : x0 < 2 ^ 64) (h1 : x1 < 2 ^ 64) (w : World) :
    Calls Try.prog 13 #[.agg #[.int .u64 x0, .int .u64 x1, .int .u64 x2, .int .u64 x3], .string (ByteArray.mk #[108, 111, 119, 101, 114])] w (RZz (lo pLower x0) (hi pLower x1) x2 x3 true w) :=
  zz_of _ x0 x1 x2 x3 _ _ _ _ true w (cls_lower (w.heap.size + 2) x0 x1 x2 x3 (W3 w x0 x1 x2 x3) (setAt_W3 w x0 x1 x2 x3) h0 h1)
theorem z_print (x0 x1 x2 x3 : Nat) (h0 : x0 < 2 ^ 64) (h1 : x1 < 2 ^ 64) (w : World) :
    Calls Try.prog 13 #[.agg #[.int .u64 x0, .int .u64 x1, .int .u64 x2, .int .u64 x3], .string (ByteArray.mk #[112, 114, 105, 110, 116])] w (RZz (lo pPrint x0) (hi pPrint x1) x2 x3 true w) :=
  zz_of _ x0 x1 x2 x3 _ _ _ _ true w (cls_print (w.heap.size + 2) x0 x1 x2 x3 (W3 w x0 x1 x2 x3) (setAt_W3 w x0 x1 x2 x3) h0 h1)
theorem z_punct (x0 x1 x2 x3 : Nat) (h0 : x0 < 2 ^ 64) (h1 : x1 < 2 ^ 64) (w : World) :
    Calls Try.prog 13 #[.agg #[.int .u64 x0, .int .u64 x1, .int .u64 x2, .int .u64 x3], .string (ByteArray.mk #[112, 117, 110, 99, 116])] w (RZz (lo pPunct x0) (hi pPunct x1) x2 x3 true w) :=
  zz_of _ x0 x1 x2 x3 _ _ _ _ true w (cls_punct (w.heap.size + 2) x0 x1 x2 x3 (W3 w x0 x1 x2 x3) (setAt_W3 w x0 x1 x2 x3) h0 h1)
theorem z_space (x0 x1 x2 x3 : Nat) (h0 : x0 < 2 ^ 64) (h1 : x1 < 2 ^ 64) (w : World) :
    Calls Try.prog 13 #[.agg #[.int .u64 x0, .int .u64 x1, .int .u64 x2, .int .u64 x3], .string (ByteArray.mk #[115, 112, 97, 99, 101])] w (RZz (lo pSpace x0) (hi pSpace x1) x2 x3 true w) :=
  zz_of _ x0 x1 x2 x3 _ _ _ _ true w (cls_space (w.heap.size + 2) x0 x1 x2 x3 (W3 w x0 x1 x2 x3) (setAt_W3 w x0 x1 x2 x3) h0 h1)
theorem z_upper (x0 x1 x2 x3 : Nat) (h0 : x0 < 2 ^ 64) (h1 : x1 < 2 ^ 64) (w : World) :
    Calls Try.prog 13 #[.agg #[.int .u64 x0, .int .u64 x1, .int .u64 x2, .int .u64 x3], .string (ByteArray.mk #[117, 112, 112, 101, 114])] w (RZz (lo pUpper x0) (hi pUpper x1) x2 x3 true w) :=
  zz_of _ x0 x1 x2 x3 _ _ _ _ true w (cls_upper (w.heap.size + 2) x0 x1 x2 x3 (W3 w x0 x1 x2 x3) (setAt_W3 w x0 x1 x2 x3) h0 h1)
theorem z_xdigit (x0 x1 x2 x3 : Nat) (h0 : x0 < 2 ^ 64) (h1 : x1 < 2 ^ 64) (w : World) :
    Calls Try.prog 13 #[.agg #[.int .u64 x0, .int .u64 x1, .int .u64 x2, .int .u64 x3], .string (ByteArray.mk #[120, 100, 105, 103, 105, 116])] w (RZz (lo pXdigit x0) (hi pXdigit x1) x2 x3 true w) :=
  zz_of _ x0 x1 x2 x3 _ _ _ _ true w (cls_xdigit (w.heap.size + 2) x0 x1 x2 x3 (W3 w x0 x1 x2 x3) (setAt_W3 w x0 x1 x2 x3) h0 h1)

end Go.Proofs.Qxb6602360a
