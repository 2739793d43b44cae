/-
  SEAT b6002373a: decodeUTF8 AT EVERY PLACE OF EVERY STRING.
-/
import Derived.Test.Qxb6002373aUtf8b
import Derived.Test.Qxb6002373aUtf8c
import Derived.Test.Qxb6002373aUtf8d
import Derived.Test.Qxb6002373aUtf8e
import Derived.Test.Qxb6002373aUtf8f
namespace Go.Proofs.Qxb6002373a
open Go Go.RowKit
open Plain (byteAt dec8)

theorem d8_any (s : ByteArray) (i : Nat) (hi : i < s.size) (hm : (s.size : Int) ≤ 1000000) (w : World) :
    Calls Try.prog 21 #[.string s, .int .i64 i] w fun e w' => e = .returned (D8 s.data.toList i) ∧ w' = w := by
  have h0 := bz_lo s.data.toList i
  have h256 := bz_hi s.data.toList i
  by_cases c128 : bz s.data.toList i < 128
  · exact d8_ascii s i hi c128 w
  · by_cases c194 : bz s.data.toList i < 194
    · exact d8_lead1 s i hi (by omega) (by omega) w
    · by_cases c224 : bz s.data.toList i < 224
      · by_cases hs : i + 1 < s.size
        · by_cases a1 : bz s.data.toList (i + 1) < 128
          · exact d8_two_badlo s i hi hm (by omega) (by omega) hs a1 w
          · by_cases a2 : 191 < bz s.data.toList (i + 1)
            · exact d8_two_badhi s i hi hm (by omega) (by omega) hs a2 w
            · exact d8_two_ok s i hi hm (by omega) (by omega) hs (by omega) (by omega) w
        · exact d8_two_short s i hi (by omega) (by omega) hs w
      · by_cases c225 : bz s.data.toList i < 225
        · by_cases hs : i + 2 < s.size
          · by_cases a1 : bz s.data.toList (i + 1) < 160
            · exact d8_three_a_badlo s i hi hm (by omega) (by omega) hs a1 w
            · by_cases a2 : 191 < bz s.data.toList (i + 1)
              · exact d8_three_a_badhi s i hi hm (by omega) (by omega) hs a2 w
              · by_cases b2 : bz s.data.toList (i + 2) < 128 ∨ 191 < bz s.data.toList (i + 2)
                · exact d8_three_a_bad2 s i hi hm (by omega) (by omega) hs (by omega) (by omega) b2 w
                · exact d8_three_a_ok s i hi hm (by omega) (by omega) hs (by omega) (by omega) (by omega) (by omega) w
          · exact d8_three_a_short s i hi (by omega) (by omega) hs w
        · by_cases c237 : bz s.data.toList i < 237
          · by_cases hs : i + 2 < s.size
            · by_cases a1 : bz s.data.toList (i + 1) < 128
              · exact d8_three_b_badlo s i hi hm (by omega) (by omega) hs a1 w
              · by_cases a2 : 191 < bz s.data.toList (i + 1)
                · exact d8_three_b_badhi s i hi hm (by omega) (by omega) hs a2 w
                · by_cases b2 : bz s.data.toList (i + 2) < 128 ∨ 191 < bz s.data.toList (i + 2)
                  · exact d8_three_b_bad2 s i hi hm (by omega) (by omega) hs (by omega) (by omega) b2 w
                  · exact d8_three_b_ok s i hi hm (by omega) (by omega) hs (by omega) (by omega) (by omega) (by omega) w
            · exact d8_three_b_short s i hi (by omega) (by omega) hs w
          · by_cases c238 : bz s.data.toList i < 238
            · by_cases hs : i + 2 < s.size
              · by_cases a1 : bz s.data.toList (i + 1) < 128
                · exact d8_three_c_badlo s i hi hm (by omega) (by omega) hs a1 w
                · by_cases a2 : 159 < bz s.data.toList (i + 1)
                  · exact d8_three_c_badhi s i hi hm (by omega) (by omega) hs a2 w
                  · by_cases b2 : bz s.data.toList (i + 2) < 128 ∨ 191 < bz s.data.toList (i + 2)
                    · exact d8_three_c_bad2 s i hi hm (by omega) (by omega) hs (by omega) (by omega) b2 w
                    · exact d8_three_c_ok s i hi hm (by omega) (by omega) hs (by omega) (by omega) (by omega) (by omega) w
              · exact d8_three_c_short s i hi (by omega) (by omega) hs w
            · by_cases c240 : bz s.data.toList i < 240
              · by_cases hs : i + 2 < s.size
                · by_cases a1 : bz s.data.toList (i + 1) < 128
                  · exact d8_three_d_badlo s i hi hm (by omega) (by omega) hs a1 w
                  · by_cases a2 : 191 < bz s.data.toList (i + 1)
                    · exact d8_three_d_badhi s i hi hm (by omega) (by omega) hs a2 w
                    · by_cases b2 : bz s.data.toList (i + 2) < 128 ∨ 191 < bz s.data.toList (i + 2)
                      · exact d8_three_d_bad2 s i hi hm (by omega) (by omega) hs (by omega) (by omega) b2 w
                      · exact d8_three_d_ok s i hi hm (by omega) (by omega) hs (by omega) (by omega) (by omega) (by omega) w
                · exact d8_three_d_short s i hi (by omega) (by omega) hs w
              · by_cases c241 : bz s.data.toList i < 241
                · by_cases hs : i + 3 < s.size
                  · by_cases a1 : bz s.data.toList (i + 1) < 144
                    · exact d8_four_a_badlo s i hi hm (by omega) (by omega) hs a1 w
                    · by_cases a2 : 191 < bz s.data.toList (i + 1)
                      · exact d8_four_a_badhi s i hi hm (by omega) (by omega) hs a2 w
                      · by_cases b2 : bz s.data.toList (i + 2) < 128 ∨ 191 < bz s.data.toList (i + 2)
                        · exact d8_four_a_bad2 s i hi hm (by omega) (by omega) hs (by omega) (by omega) b2 w
                        · by_cases b3 : bz s.data.toList (i + 3) < 128 ∨ 191 < bz s.data.toList (i + 3)
                          · exact d8_four_a_bad3 s i hi hm (by omega) (by omega) hs (by omega) (by omega) (by omega) (by omega) b3 w
                          · exact d8_four_a_ok s i hi hm (by omega) (by omega) hs (by omega) (by omega) (by omega) (by omega) (by omega) (by omega) w
                  · exact d8_four_a_short s i hi (by omega) (by omega) hs w
                · by_cases c244 : bz s.data.toList i < 244
                  · by_cases hs : i + 3 < s.size
                    · by_cases a1 : bz s.data.toList (i + 1) < 128
                      · exact d8_four_b_badlo s i hi hm (by omega) (by omega) hs a1 w
                      · by_cases a2 : 191 < bz s.data.toList (i + 1)
                        · exact d8_four_b_badhi s i hi hm (by omega) (by omega) hs a2 w
                        · by_cases b2 : bz s.data.toList (i + 2) < 128 ∨ 191 < bz s.data.toList (i + 2)
                          · exact d8_four_b_bad2 s i hi hm (by omega) (by omega) hs (by omega) (by omega) b2 w
                          · by_cases b3 : bz s.data.toList (i + 3) < 128 ∨ 191 < bz s.data.toList (i + 3)
                            · exact d8_four_b_bad3 s i hi hm (by omega) (by omega) hs (by omega) (by omega) (by omega) (by omega) b3 w
                            · exact d8_four_b_ok s i hi hm (by omega) (by omega) hs (by omega) (by omega) (by omega) (by omega) (by omega) (by omega) w
                    · exact d8_four_b_short s i hi (by omega) (by omega) hs w
                  · by_cases c245 : bz s.data.toList i < 245
                    · by_cases hs : i + 3 < s.size
                      · by_cases a1 : bz s.data.toList (i + 1) < 128
                        · exact d8_four_c_badlo s i hi hm (by omega) (by omega) hs a1 w
                        · by_cases a2 : 143 < bz s.data.toList (i + 1)
                          · exact d8_four_c_badhi s i hi hm (by omega) (by omega) hs a2 w
                          · by_cases b2 : bz s.data.toList (i + 2) < 128 ∨ 191 < bz s.data.toList (i + 2)
                            · exact d8_four_c_bad2 s i hi hm (by omega) (by omega) hs (by omega) (by omega) b2 w
                            · by_cases b3 : bz s.data.toList (i + 3) < 128 ∨ 191 < bz s.data.toList (i + 3)
                              · exact d8_four_c_bad3 s i hi hm (by omega) (by omega) hs (by omega) (by omega) (by omega) (by omega) b3 w
                              · exact d8_four_c_ok s i hi hm (by omega) (by omega) hs (by omega) (by omega) (by omega) (by omega) (by omega) (by omega) w
                      · exact d8_four_c_short s i hi (by omega) (by omega) hs w
                    · exact d8_lead2 s i hi (by omega) (by omega) w

#print axioms d8_any
end Go.Proofs.Qxb6002373a
