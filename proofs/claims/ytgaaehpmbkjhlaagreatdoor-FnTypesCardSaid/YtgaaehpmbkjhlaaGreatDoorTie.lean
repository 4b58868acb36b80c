/-
  DERIVED. GIVEN WITH THE SEED: THE PROGRAM's TIES (one call each: nine closed facts by the kernel) AND EACH ROW's TIE, after the 31st guide's Derived/Test/Toyas{Tie, Card}.lean. No idea stands in it: it is a product of the set-up. Laid BY PROGRAM, IN A SANDBOX (cutbox-door.mjs). By AI agents, Wed Nov 11 2026. No macro, syntax, notation, axiom, sorry.
-/
import Derived.Test.YtgaaehpmbkjhlaaGreatDoorRows
import Derived.LaidByTextLater
import Derived.SevenTiedAt
import Derived.LaidSub
import Derived.LaidOnce
namespace Go.Proofs.YtgaaehpmbkjhlaaGreatDoor
open Go
set_option maxRecDepth 100000
theorem seatTie1 : Tryz.prog.laidByTextLater [("math/bits.deBruijn32tab", Rows.laid_math_bits_deBruijn32tab), ("math/bits.deBruijn64tab", Rows.laid_math_bits_deBruijn64tab), ("internal/strconv.float32info", Rows.laid_internal_strconv_float32info), ("internal/strconv.float64info", Rows.laid_internal_strconv_float64info), ("internal/strconv.optimize", Rows.laid_internal_strconv_optimize), ("internal/strconv.powtab", Rows.laid_internal_strconv_powtab), ("internal/strconv.float64pow10", Rows.laid_internal_strconv_float64pow10), ("internal/strconv.float32pow10", Rows.laid_internal_strconv_float32pow10), ("internal/strconv.uint64pow10", Rows.laid_internal_strconv_uint64pow10), ("strconv.ErrRange", Rows.laid_strconv_ErrRange), ("strconv.ErrSyntax", Rows.laid_strconv_ErrSyntax), ("loop.example/pub-g03071/pub/jwt.ErrInvalidType", Rows.laid_loop_example_pub_g03071_pub_jwt_ErrInvalidType)] [.data, .data, .widerDeep, .widerDeep, .data, .data, .data, .data, .data, .sentinel, .sentinel, .sentinel] true :=
  Program.laidByTextLater_by_one 405 8 65 (by kernel_rfl) (by kernel_rfl) (by kernel_rfl) (by kernel_rfl) (by kernel_rfl) (by kernel_rfl) (fun _ _ => by kernel_rfl)
theorem seatTie2 : Tryz.prog.laidByTextLater [("loop.example/pub-g03071/pub/jwt.ErrInvalidKey", Rows.laid_loop_example_pub_g03071_pub_jwt_ErrInvalidKey), ("loop.example/pub-g03071/pub/jwt.ErrInvalidKeyType", Rows.laid_loop_example_pub_g03071_pub_jwt_ErrInvalidKeyType), ("loop.example/pub-g03071/pub/jwt.ErrHashUnavailable", Rows.laid_loop_example_pub_g03071_pub_jwt_ErrHashUnavailable), ("loop.example/pub-g03071/pub/jwt.ErrTokenMalformed", Rows.laid_loop_example_pub_g03071_pub_jwt_ErrTokenMalformed), ("loop.example/pub-g03071/pub/jwt.ErrTokenUnverifiable", Rows.laid_loop_example_pub_g03071_pub_jwt_ErrTokenUnverifiable), ("loop.example/pub-g03071/pub/jwt.ErrTokenSignatureInvalid", Rows.laid_loop_example_pub_g03071_pub_jwt_ErrTokenSignatureInvalid), ("loop.example/pub-g03071/pub/jwt.ErrTokenRequiredClaimMissing", Rows.laid_loop_example_pub_g03071_pub_jwt_ErrTokenRequiredClaimMissing), ("loop.example/pub-g03071/pub/jwt.ErrTokenInvalidAudience", Rows.laid_loop_example_pub_g03071_pub_jwt_ErrTokenInvalidAudience), ("loop.example/pub-g03071/pub/jwt.ErrTokenExpired", Rows.laid_loop_example_pub_g03071_pub_jwt_ErrTokenExpired), ("loop.example/pub-g03071/pub/jwt.ErrTokenUsedBeforeIssued", Rows.laid_loop_example_pub_g03071_pub_jwt_ErrTokenUsedBeforeIssued), ("loop.example/pub-g03071/pub/jwt.ErrTokenInvalidIssuer", Rows.laid_loop_example_pub_g03071_pub_jwt_ErrTokenInvalidIssuer), ("loop.example/pub-g03071/pub/jwt.ErrTokenInvalidSubject", Rows.laid_loop_example_pub_g03071_pub_jwt_ErrTokenInvalidSubject), ("loop.example/pub-g03071/pub/jwt.ErrTokenNotValidYet", Rows.laid_loop_example_pub_g03071_pub_jwt_ErrTokenNotValidYet), ("loop.example/pub-g03071/pub/jwt.ErrTokenInvalidId", Rows.laid_loop_example_pub_g03071_pub_jwt_ErrTokenInvalidId), ("loop.example/pub-g03071/pub/jwt.ErrTokenInvalidClaims", Rows.laid_loop_example_pub_g03071_pub_jwt_ErrTokenInvalidClaims), ("loop.example/pub-g03071/pub/jwt.ErrInvalidType", Rows.laid_loop_example_pub_g03071_pub_jwt_ErrInvalidType)] [.sentinel, .sentinel, .sentinel, .sentinel, .sentinel, .sentinel, .sentinel, .sentinel, .sentinel, .sentinel, .sentinel, .sentinel, .sentinel, .sentinel, .sentinel, .sentinel] true :=
  Program.laidByTextLater_by_one 405 8 65 (by kernel_rfl) (by kernel_rfl) (by kernel_rfl) (by kernel_rfl) (by kernel_rfl) (by kernel_rfl) (fun _ _ => by kernel_rfl)
theorem seatTie3 : Tryz.prog.laidByTextLater [("math/bits.deBruijn32tab", Rows.laid_math_bits_deBruijn32tab), ("math/bits.deBruijn64tab", Rows.laid_math_bits_deBruijn64tab), ("internal/strconv.float32info", Rows.laid_internal_strconv_float32info), ("internal/strconv.float64info", Rows.laid_internal_strconv_float64info), ("internal/strconv.optimize", Rows.laid_internal_strconv_optimize), ("internal/strconv.powtab", Rows.laid_internal_strconv_powtab), ("internal/strconv.float64pow10", Rows.laid_internal_strconv_float64pow10), ("internal/strconv.float32pow10", Rows.laid_internal_strconv_float32pow10), ("internal/strconv.uint64pow10", Rows.laid_internal_strconv_uint64pow10), ("strconv.ErrRange", Rows.laid_strconv_ErrRange), ("strconv.ErrSyntax", Rows.laid_strconv_ErrSyntax), ("loop.example/pub-g03071/pub/jwt.ErrInvalidKey", Rows.laid_loop_example_pub_g03071_pub_jwt_ErrInvalidKey), ("loop.example/pub-g03071/pub/jwt.ErrInvalidKeyType", Rows.laid_loop_example_pub_g03071_pub_jwt_ErrInvalidKeyType), ("loop.example/pub-g03071/pub/jwt.ErrHashUnavailable", Rows.laid_loop_example_pub_g03071_pub_jwt_ErrHashUnavailable), ("loop.example/pub-g03071/pub/jwt.ErrTokenMalformed", Rows.laid_loop_example_pub_g03071_pub_jwt_ErrTokenMalformed), ("loop.example/pub-g03071/pub/jwt.ErrTokenUnverifiable", Rows.laid_loop_example_pub_g03071_pub_jwt_ErrTokenUnverifiable), ("loop.example/pub-g03071/pub/jwt.ErrTokenSignatureInvalid", Rows.laid_loop_example_pub_g03071_pub_jwt_ErrTokenSignatureInvalid), ("loop.example/pub-g03071/pub/jwt.ErrTokenRequiredClaimMissing", Rows.laid_loop_example_pub_g03071_pub_jwt_ErrTokenRequiredClaimMissing), ("loop.example/pub-g03071/pub/jwt.ErrTokenInvalidAudience", Rows.laid_loop_example_pub_g03071_pub_jwt_ErrTokenInvalidAudience), ("loop.example/pub-g03071/pub/jwt.ErrTokenExpired", Rows.laid_loop_example_pub_g03071_pub_jwt_ErrTokenExpired), ("loop.example/pub-g03071/pub/jwt.ErrTokenUsedBeforeIssued", Rows.laid_loop_example_pub_g03071_pub_jwt_ErrTokenUsedBeforeIssued), ("loop.example/pub-g03071/pub/jwt.ErrTokenInvalidIssuer", Rows.laid_loop_example_pub_g03071_pub_jwt_ErrTokenInvalidIssuer), ("loop.example/pub-g03071/pub/jwt.ErrTokenInvalidSubject", Rows.laid_loop_example_pub_g03071_pub_jwt_ErrTokenInvalidSubject), ("loop.example/pub-g03071/pub/jwt.ErrTokenNotValidYet", Rows.laid_loop_example_pub_g03071_pub_jwt_ErrTokenNotValidYet), ("loop.example/pub-g03071/pub/jwt.ErrTokenInvalidId", Rows.laid_loop_example_pub_g03071_pub_jwt_ErrTokenInvalidId), ("loop.example/pub-g03071/pub/jwt.ErrTokenInvalidClaims", Rows.laid_loop_example_pub_g03071_pub_jwt_ErrTokenInvalidClaims), ("loop.example/pub-g03071/pub/jwt.ErrInvalidType", Rows.laid_loop_example_pub_g03071_pub_jwt_ErrInvalidType)] [.data, .data, .widerDeep, .widerDeep, .data, .data, .data, .data, .data, .sentinel, .sentinel, .sentinel, .sentinel, .sentinel, .sentinel, .sentinel, .sentinel, .sentinel, .sentinel, .sentinel, .sentinel, .sentinel, .sentinel, .sentinel, .sentinel, .sentinel, .sentinel] true :=
  Program.laidByTextLater_by_one 405 8 65 (by kernel_rfl) (by kernel_rfl) (by kernel_rfl) (by kernel_rfl) (by kernel_rfl) (by kernel_rfl) (fun _ _ => by kernel_rfl)
theorem pin_laid_internal_strconv_leftcheats : Tryz.pinned.checked.prog.pinnedFits "internal/strconv.leftcheats" = true := by kernel_rfl
theorem pin_laid_internal_strconv_pow10Tab : Tryz.pinned.checked.prog.pinnedFits "internal/strconv.pow10Tab" = true := by kernel_rfl
theorem noOwnUnsafe : Tryz.pinned.checked.prog.headLifts.contains "ownunsafe" = false := by kernel_rfl
theorem fits1 : Tryz.pinned.checked.prog.listedFits [("math/bits.deBruijn32tab", Rows.laid_math_bits_deBruijn32tab), ("math/bits.deBruijn64tab", Rows.laid_math_bits_deBruijn64tab), ("internal/strconv.float32info", Rows.laid_internal_strconv_float32info), ("internal/strconv.float64info", Rows.laid_internal_strconv_float64info), ("internal/strconv.optimize", Rows.laid_internal_strconv_optimize), ("internal/strconv.powtab", Rows.laid_internal_strconv_powtab), ("internal/strconv.float64pow10", Rows.laid_internal_strconv_float64pow10), ("internal/strconv.float32pow10", Rows.laid_internal_strconv_float32pow10), ("internal/strconv.uint64pow10", Rows.laid_internal_strconv_uint64pow10), ("strconv.ErrRange", Rows.laid_strconv_ErrRange), ("strconv.ErrSyntax", Rows.laid_strconv_ErrSyntax), ("loop.example/pub-g03071/pub/jwt.ErrInvalidType", Rows.laid_loop_example_pub_g03071_pub_jwt_ErrInvalidType), ("internal/strconv.leftcheats", Rows.laid_internal_strconv_leftcheats), ("internal/strconv.pow10Tab", Rows.laid_internal_strconv_pow10Tab)] = true := by
  unfold Program.listedFits
  rw [noOwnUnsafe]
  kernel_rfl
theorem tie : Tryz.prog.laidByTextLater [("math/bits.deBruijn32tab", Rows.laid_math_bits_deBruijn32tab), ("math/bits.deBruijn64tab", Rows.laid_math_bits_deBruijn64tab), ("internal/strconv.float32info", Rows.laid_internal_strconv_float32info), ("internal/strconv.float64info", Rows.laid_internal_strconv_float64info), ("internal/strconv.optimize", Rows.laid_internal_strconv_optimize), ("internal/strconv.powtab", Rows.laid_internal_strconv_powtab), ("internal/strconv.float64pow10", Rows.laid_internal_strconv_float64pow10), ("internal/strconv.float32pow10", Rows.laid_internal_strconv_float32pow10), ("internal/strconv.uint64pow10", Rows.laid_internal_strconv_uint64pow10), ("strconv.ErrRange", Rows.laid_strconv_ErrRange), ("strconv.ErrSyntax", Rows.laid_strconv_ErrSyntax), ("loop.example/pub-g03071/pub/jwt.ErrInvalidType", Rows.laid_loop_example_pub_g03071_pub_jwt_ErrInvalidType)] [.data, .data, .widerDeep, .widerDeep, .data, .data, .data, .data, .data, .sentinel, .sentinel, .sentinel] true :=
  Program.laidByTextLater.sub seatTie1 ["math/bits.deBruijn32tab", "math/bits.deBruijn64tab", "internal/strconv.float32info", "internal/strconv.float64info", "internal/strconv.optimize", "internal/strconv.powtab", "internal/strconv.float64pow10", "internal/strconv.float32pow10", "internal/strconv.uint64pow10", "strconv.ErrRange", "strconv.ErrSyntax", "loop.example/pub-g03071/pub/jwt.ErrInvalidType"] (by kernel_rfl) (by kernel_rfl)
theorem fnTold_row_tie : Rows.fnToldRow.laidByTextAt .later Tryz.pinned [.data, .data, .widerDeep, .widerDeep, .data, .data, .data, .data, .data, .sentinel, .sentinel, .sentinel, .pinned, .pinned] true :=
  OpenClaim.laidByTextAt_pinned rfl rfl tie rfl rfl rfl rfl (fun y hy _e => by
    simp only [Rows.fnToldRow, List.zip_cons_cons, List.zip_nil_right, List.mem_cons, List.mem_nil_iff, or_false] at hy
    rcases hy with rfl | rfl | rfl | rfl | rfl | rfl | rfl | rfl | rfl | rfl | rfl | rfl | rfl | rfl
    · cases _e
    · cases _e
    · cases _e
    · cases _e
    · cases _e
    · cases _e
    · cases _e
    · cases _e
    · cases _e
    · cases _e
    · cases _e
    · cases _e
    · exact ⟨pin_laid_internal_strconv_leftcheats, by kernel_rfl⟩
    · exact ⟨pin_laid_internal_strconv_pow10Tab, by kernel_rfl⟩) fits1
theorem tie2 : Tryz.prog.laidByTextLater [("loop.example/pub-g03071/pub/jwt.ErrInvalidKey", Rows.laid_loop_example_pub_g03071_pub_jwt_ErrInvalidKey), ("loop.example/pub-g03071/pub/jwt.ErrInvalidKeyType", Rows.laid_loop_example_pub_g03071_pub_jwt_ErrInvalidKeyType), ("loop.example/pub-g03071/pub/jwt.ErrHashUnavailable", Rows.laid_loop_example_pub_g03071_pub_jwt_ErrHashUnavailable), ("loop.example/pub-g03071/pub/jwt.ErrTokenMalformed", Rows.laid_loop_example_pub_g03071_pub_jwt_ErrTokenMalformed), ("loop.example/pub-g03071/pub/jwt.ErrTokenUnverifiable", Rows.laid_loop_example_pub_g03071_pub_jwt_ErrTokenUnverifiable), ("loop.example/pub-g03071/pub/jwt.ErrTokenSignatureInvalid", Rows.laid_loop_example_pub_g03071_pub_jwt_ErrTokenSignatureInvalid), ("loop.example/pub-g03071/pub/jwt.ErrTokenRequiredClaimMissing", Rows.laid_loop_example_pub_g03071_pub_jwt_ErrTokenRequiredClaimMissing), ("loop.example/pub-g03071/pub/jwt.ErrTokenInvalidAudience", Rows.laid_loop_example_pub_g03071_pub_jwt_ErrTokenInvalidAudience), ("loop.example/pub-g03071/pub/jwt.ErrTokenExpired", Rows.laid_loop_example_pub_g03071_pub_jwt_ErrTokenExpired), ("loop.example/pub-g03071/pub/jwt.ErrTokenUsedBeforeIssued", Rows.laid_loop_example_pub_g03071_pub_jwt_ErrTokenUsedBeforeIssued), ("loop.example/pub-g03071/pub/jwt.ErrTokenInvalidIssuer", Rows.laid_loop_example_pub_g03071_pub_jwt_ErrTokenInvalidIssuer), ("loop.example/pub-g03071/pub/jwt.ErrTokenInvalidSubject", Rows.laid_loop_example_pub_g03071_pub_jwt_ErrTokenInvalidSubject), ("loop.example/pub-g03071/pub/jwt.ErrTokenNotValidYet", Rows.laid_loop_example_pub_g03071_pub_jwt_ErrTokenNotValidYet), ("loop.example/pub-g03071/pub/jwt.ErrTokenInvalidId", Rows.laid_loop_example_pub_g03071_pub_jwt_ErrTokenInvalidId), ("loop.example/pub-g03071/pub/jwt.ErrTokenInvalidClaims", Rows.laid_loop_example_pub_g03071_pub_jwt_ErrTokenInvalidClaims), ("loop.example/pub-g03071/pub/jwt.ErrInvalidType", Rows.laid_loop_example_pub_g03071_pub_jwt_ErrInvalidType)] [.sentinel, .sentinel, .sentinel, .sentinel, .sentinel, .sentinel, .sentinel, .sentinel, .sentinel, .sentinel, .sentinel, .sentinel, .sentinel, .sentinel, .sentinel, .sentinel] true :=
  Program.laidByTextLater.sub seatTie2 ["loop.example/pub-g03071/pub/jwt.ErrInvalidKey", "loop.example/pub-g03071/pub/jwt.ErrInvalidKeyType", "loop.example/pub-g03071/pub/jwt.ErrHashUnavailable", "loop.example/pub-g03071/pub/jwt.ErrTokenMalformed", "loop.example/pub-g03071/pub/jwt.ErrTokenUnverifiable", "loop.example/pub-g03071/pub/jwt.ErrTokenSignatureInvalid", "loop.example/pub-g03071/pub/jwt.ErrTokenRequiredClaimMissing", "loop.example/pub-g03071/pub/jwt.ErrTokenInvalidAudience", "loop.example/pub-g03071/pub/jwt.ErrTokenExpired", "loop.example/pub-g03071/pub/jwt.ErrTokenUsedBeforeIssued", "loop.example/pub-g03071/pub/jwt.ErrTokenInvalidIssuer", "loop.example/pub-g03071/pub/jwt.ErrTokenInvalidSubject", "loop.example/pub-g03071/pub/jwt.ErrTokenNotValidYet", "loop.example/pub-g03071/pub/jwt.ErrTokenInvalidId", "loop.example/pub-g03071/pub/jwt.ErrTokenInvalidClaims", "loop.example/pub-g03071/pub/jwt.ErrInvalidType"] (by kernel_rfl) (by kernel_rfl)
theorem fnValidate_row_tie : Rows.fnValidateRow.laidByTextAt .later Tryz.pinned [.sentinel, .sentinel, .sentinel, .sentinel, .sentinel, .sentinel, .sentinel, .sentinel, .sentinel, .sentinel, .sentinel, .sentinel, .sentinel, .sentinel, .sentinel, .sentinel] true :=
  OpenClaim.laidByTextAt_later rfl rfl tie2 noOwnUnsafe
theorem fits3 : Tryz.pinned.checked.prog.listedFits [("math/bits.deBruijn32tab", Rows.laid_math_bits_deBruijn32tab), ("math/bits.deBruijn64tab", Rows.laid_math_bits_deBruijn64tab), ("internal/strconv.float32info", Rows.laid_internal_strconv_float32info), ("internal/strconv.float64info", Rows.laid_internal_strconv_float64info), ("internal/strconv.optimize", Rows.laid_internal_strconv_optimize), ("internal/strconv.powtab", Rows.laid_internal_strconv_powtab), ("internal/strconv.float64pow10", Rows.laid_internal_strconv_float64pow10), ("internal/strconv.float32pow10", Rows.laid_internal_strconv_float32pow10), ("internal/strconv.uint64pow10", Rows.laid_internal_strconv_uint64pow10), ("strconv.ErrRange", Rows.laid_strconv_ErrRange), ("strconv.ErrSyntax", Rows.laid_strconv_ErrSyntax), ("loop.example/pub-g03071/pub/jwt.ErrInvalidKey", Rows.laid_loop_example_pub_g03071_pub_jwt_ErrInvalidKey), ("loop.example/pub-g03071/pub/jwt.ErrInvalidKeyType", Rows.laid_loop_example_pub_g03071_pub_jwt_ErrInvalidKeyType), ("loop.example/pub-g03071/pub/jwt.ErrHashUnavailable", Rows.laid_loop_example_pub_g03071_pub_jwt_ErrHashUnavailable), ("loop.example/pub-g03071/pub/jwt.ErrTokenMalformed", Rows.laid_loop_example_pub_g03071_pub_jwt_ErrTokenMalformed), ("loop.example/pub-g03071/pub/jwt.ErrTokenUnverifiable", Rows.laid_loop_example_pub_g03071_pub_jwt_ErrTokenUnverifiable), ("loop.example/pub-g03071/pub/jwt.ErrTokenSignatureInvalid", Rows.laid_loop_example_pub_g03071_pub_jwt_ErrTokenSignatureInvalid), ("loop.example/pub-g03071/pub/jwt.ErrTokenRequiredClaimMissing", Rows.laid_loop_example_pub_g03071_pub_jwt_ErrTokenRequiredClaimMissing), ("loop.example/pub-g03071/pub/jwt.ErrTokenInvalidAudience", Rows.laid_loop_example_pub_g03071_pub_jwt_ErrTokenInvalidAudience), ("loop.example/pub-g03071/pub/jwt.ErrTokenExpired", Rows.laid_loop_example_pub_g03071_pub_jwt_ErrTokenExpired), ("loop.example/pub-g03071/pub/jwt.ErrTokenUsedBeforeIssued", Rows.laid_loop_example_pub_g03071_pub_jwt_ErrTokenUsedBeforeIssued), ("loop.example/pub-g03071/pub/jwt.ErrTokenInvalidIssuer", Rows.laid_loop_example_pub_g03071_pub_jwt_ErrTokenInvalidIssuer), ("loop.example/pub-g03071/pub/jwt.ErrTokenInvalidSubject", Rows.laid_loop_example_pub_g03071_pub_jwt_ErrTokenInvalidSubject), ("loop.example/pub-g03071/pub/jwt.ErrTokenNotValidYet", Rows.laid_loop_example_pub_g03071_pub_jwt_ErrTokenNotValidYet), ("loop.example/pub-g03071/pub/jwt.ErrTokenInvalidId", Rows.laid_loop_example_pub_g03071_pub_jwt_ErrTokenInvalidId), ("loop.example/pub-g03071/pub/jwt.ErrTokenInvalidClaims", Rows.laid_loop_example_pub_g03071_pub_jwt_ErrTokenInvalidClaims), ("loop.example/pub-g03071/pub/jwt.ErrInvalidType", Rows.laid_loop_example_pub_g03071_pub_jwt_ErrInvalidType), ("internal/strconv.leftcheats", Rows.laid_internal_strconv_leftcheats), ("internal/strconv.pow10Tab", Rows.laid_internal_strconv_pow10Tab)] = true := by
  unfold Program.listedFits
  rw [noOwnUnsafe]
  kernel_rfl
theorem tie3 : Tryz.prog.laidByTextLater [("math/bits.deBruijn32tab", Rows.laid_math_bits_deBruijn32tab), ("math/bits.deBruijn64tab", Rows.laid_math_bits_deBruijn64tab), ("internal/strconv.float32info", Rows.laid_internal_strconv_float32info), ("internal/strconv.float64info", Rows.laid_internal_strconv_float64info), ("internal/strconv.optimize", Rows.laid_internal_strconv_optimize), ("internal/strconv.powtab", Rows.laid_internal_strconv_powtab), ("internal/strconv.float64pow10", Rows.laid_internal_strconv_float64pow10), ("internal/strconv.float32pow10", Rows.laid_internal_strconv_float32pow10), ("internal/strconv.uint64pow10", Rows.laid_internal_strconv_uint64pow10), ("strconv.ErrRange", Rows.laid_strconv_ErrRange), ("strconv.ErrSyntax", Rows.laid_strconv_ErrSyntax), ("loop.example/pub-g03071/pub/jwt.ErrInvalidKey", Rows.laid_loop_example_pub_g03071_pub_jwt_ErrInvalidKey), ("loop.example/pub-g03071/pub/jwt.ErrInvalidKeyType", Rows.laid_loop_example_pub_g03071_pub_jwt_ErrInvalidKeyType), ("loop.example/pub-g03071/pub/jwt.ErrHashUnavailable", Rows.laid_loop_example_pub_g03071_pub_jwt_ErrHashUnavailable), ("loop.example/pub-g03071/pub/jwt.ErrTokenMalformed", Rows.laid_loop_example_pub_g03071_pub_jwt_ErrTokenMalformed), ("loop.example/pub-g03071/pub/jwt.ErrTokenUnverifiable", Rows.laid_loop_example_pub_g03071_pub_jwt_ErrTokenUnverifiable), ("loop.example/pub-g03071/pub/jwt.ErrTokenSignatureInvalid", Rows.laid_loop_example_pub_g03071_pub_jwt_ErrTokenSignatureInvalid), ("loop.example/pub-g03071/pub/jwt.ErrTokenRequiredClaimMissing", Rows.laid_loop_example_pub_g03071_pub_jwt_ErrTokenRequiredClaimMissing), ("loop.example/pub-g03071/pub/jwt.ErrTokenInvalidAudience", Rows.laid_loop_example_pub_g03071_pub_jwt_ErrTokenInvalidAudience), ("loop.example/pub-g03071/pub/jwt.ErrTokenExpired", Rows.laid_loop_example_pub_g03071_pub_jwt_ErrTokenExpired), ("loop.example/pub-g03071/pub/jwt.ErrTokenUsedBeforeIssued", Rows.laid_loop_example_pub_g03071_pub_jwt_ErrTokenUsedBeforeIssued), ("loop.example/pub-g03071/pub/jwt.ErrTokenInvalidIssuer", Rows.laid_loop_example_pub_g03071_pub_jwt_ErrTokenInvalidIssuer), ("loop.example/pub-g03071/pub/jwt.ErrTokenInvalidSubject", Rows.laid_loop_example_pub_g03071_pub_jwt_ErrTokenInvalidSubject), ("loop.example/pub-g03071/pub/jwt.ErrTokenNotValidYet", Rows.laid_loop_example_pub_g03071_pub_jwt_ErrTokenNotValidYet), ("loop.example/pub-g03071/pub/jwt.ErrTokenInvalidId", Rows.laid_loop_example_pub_g03071_pub_jwt_ErrTokenInvalidId), ("loop.example/pub-g03071/pub/jwt.ErrTokenInvalidClaims", Rows.laid_loop_example_pub_g03071_pub_jwt_ErrTokenInvalidClaims), ("loop.example/pub-g03071/pub/jwt.ErrInvalidType", Rows.laid_loop_example_pub_g03071_pub_jwt_ErrInvalidType)] [.data, .data, .widerDeep, .widerDeep, .data, .data, .data, .data, .data, .sentinel, .sentinel, .sentinel, .sentinel, .sentinel, .sentinel, .sentinel, .sentinel, .sentinel, .sentinel, .sentinel, .sentinel, .sentinel, .sentinel, .sentinel, .sentinel, .sentinel, .sentinel] true :=
  Program.laidByTextLater.sub seatTie3 ["math/bits.deBruijn32tab", "math/bits.deBruijn64tab", "internal/strconv.float32info", "internal/strconv.float64info", "internal/strconv.optimize", "internal/strconv.powtab", "internal/strconv.float64pow10", "internal/strconv.float32pow10", "internal/strconv.uint64pow10", "strconv.ErrRange", "strconv.ErrSyntax", "loop.example/pub-g03071/pub/jwt.ErrInvalidKey", "loop.example/pub-g03071/pub/jwt.ErrInvalidKeyType", "loop.example/pub-g03071/pub/jwt.ErrHashUnavailable", "loop.example/pub-g03071/pub/jwt.ErrTokenMalformed", "loop.example/pub-g03071/pub/jwt.ErrTokenUnverifiable", "loop.example/pub-g03071/pub/jwt.ErrTokenSignatureInvalid", "loop.example/pub-g03071/pub/jwt.ErrTokenRequiredClaimMissing", "loop.example/pub-g03071/pub/jwt.ErrTokenInvalidAudience", "loop.example/pub-g03071/pub/jwt.ErrTokenExpired", "loop.example/pub-g03071/pub/jwt.ErrTokenUsedBeforeIssued", "loop.example/pub-g03071/pub/jwt.ErrTokenInvalidIssuer", "loop.example/pub-g03071/pub/jwt.ErrTokenInvalidSubject", "loop.example/pub-g03071/pub/jwt.ErrTokenNotValidYet", "loop.example/pub-g03071/pub/jwt.ErrTokenInvalidId", "loop.example/pub-g03071/pub/jwt.ErrTokenInvalidClaims", "loop.example/pub-g03071/pub/jwt.ErrInvalidType"] (by kernel_rfl) (by kernel_rfl)
theorem fnTypes_row_tie : Rows.fnTypesRow.laidByTextAt .later Tryz.pinned [.data, .data, .widerDeep, .widerDeep, .data, .data, .data, .data, .data, .sentinel, .sentinel, .sentinel, .sentinel, .sentinel, .sentinel, .sentinel, .sentinel, .sentinel, .sentinel, .sentinel, .sentinel, .sentinel, .sentinel, .sentinel, .sentinel, .sentinel, .sentinel, .pinned, .pinned] true :=
  OpenClaim.laidByTextAt_pinned rfl rfl tie3 rfl rfl rfl rfl (fun y hy _e => by
    simp only [Rows.fnTypesRow, List.zip_cons_cons, List.zip_nil_right, List.mem_cons, List.mem_nil_iff, or_false] at hy
    rcases hy with rfl | rfl | rfl | rfl | rfl | rfl | rfl | rfl | rfl | rfl | rfl | rfl | rfl | rfl | rfl | rfl | rfl | rfl | rfl | rfl | rfl | rfl | rfl | rfl | rfl | rfl | rfl | rfl | rfl
    · cases _e
    · cases _e
    · cases _e
    · cases _e
    · cases _e
    · cases _e
    · cases _e
    · cases _e
    · cases _e
    · cases _e
    · cases _e
    · cases _e
    · cases _e
    · cases _e
    · cases _e
    · cases _e
    · cases _e
    · cases _e
    · cases _e
    · cases _e
    · cases _e
    · cases _e
    · cases _e
    · cases _e
    · cases _e
    · cases _e
    · cases _e
    · exact ⟨pin_laid_internal_strconv_leftcheats, by kernel_rfl⟩
    · exact ⟨pin_laid_internal_strconv_pow10Tab, by kernel_rfl⟩) fits3
theorem fnToldUpto_row_tie : Rows.fnToldUptoRow.laidByTextAt .later Tryz.pinned [.data, .data, .widerDeep, .widerDeep, .data, .data, .data, .data, .data, .sentinel, .sentinel, .sentinel, .pinned, .pinned] true :=
  OpenClaim.laidByTextAt_pinned rfl rfl tie rfl rfl rfl rfl (fun y hy _e => by
    simp only [Rows.fnToldUptoRow, List.zip_cons_cons, List.zip_nil_right, List.mem_cons, List.mem_nil_iff, or_false] at hy
    rcases hy with rfl | rfl | rfl | rfl | rfl | rfl | rfl | rfl | rfl | rfl | rfl | rfl | rfl | rfl
    · cases _e
    · cases _e
    · cases _e
    · cases _e
    · cases _e
    · cases _e
    · cases _e
    · cases _e
    · cases _e
    · cases _e
    · cases _e
    · cases _e
    · exact ⟨pin_laid_internal_strconv_leftcheats, by kernel_rfl⟩
    · exact ⟨pin_laid_internal_strconv_pow10Tab, by kernel_rfl⟩) fits1
theorem fnValidateUpto_row_tie : Rows.fnValidateUptoRow.laidByTextAt .later Tryz.pinned [.sentinel, .sentinel, .sentinel, .sentinel, .sentinel, .sentinel, .sentinel, .sentinel, .sentinel, .sentinel, .sentinel, .sentinel, .sentinel, .sentinel, .sentinel, .sentinel] true :=
  OpenClaim.laidByTextAt_later rfl rfl tie2 noOwnUnsafe
theorem fnTypesUpto_row_tie : Rows.fnTypesUptoRow.laidByTextAt .later Tryz.pinned [.data, .data, .widerDeep, .widerDeep, .data, .data, .data, .data, .data, .sentinel, .sentinel, .sentinel, .sentinel, .sentinel, .sentinel, .sentinel, .sentinel, .sentinel, .sentinel, .sentinel, .sentinel, .sentinel, .sentinel, .sentinel, .sentinel, .sentinel, .sentinel, .pinned, .pinned] true :=
  OpenClaim.laidByTextAt_pinned rfl rfl tie3 rfl rfl rfl rfl (fun y hy _e => by
    simp only [Rows.fnTypesUptoRow, List.zip_cons_cons, List.zip_nil_right, List.mem_cons, List.mem_nil_iff, or_false] at hy
    rcases hy with rfl | rfl | rfl | rfl | rfl | rfl | rfl | rfl | rfl | rfl | rfl | rfl | rfl | rfl | rfl | rfl | rfl | rfl | rfl | rfl | rfl | rfl | rfl | rfl | rfl | rfl | rfl | rfl | rfl
    · cases _e
    · cases _e
    · cases _e
    · cases _e
    · cases _e
    · cases _e
    · cases _e
    · cases _e
    · cases _e
    · cases _e
    · cases _e
    · cases _e
    · cases _e
    · cases _e
    · cases _e
    · cases _e
    · cases _e
    · cases _e
    · cases _e
    · cases _e
    · cases _e
    · cases _e
    · cases _e
    · cases _e
    · cases _e
    · cases _e
    · cases _e
    · exact ⟨pin_laid_internal_strconv_leftcheats, by kernel_rfl⟩
    · exact ⟨pin_laid_internal_strconv_pow10Tab, by kernel_rfl⟩) fits3
end Go.Proofs.YtgaaehpmbkjhlaaGreatDoor
