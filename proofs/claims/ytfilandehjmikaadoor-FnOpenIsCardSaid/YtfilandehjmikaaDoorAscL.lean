/- The rules of the twelve rounds, written out (by program), the code's and the specification's; they are those of the rounds. No condition. -/
import Derived.Test.YtfilandehjmikaaDoorAscR
import Derived.KernelRfl
namespace Go.Proofs.YtfilandehjmikaaDoor.Asc
open Go.Proofs.YtfilandehjmikaaDoor.Sx

def implL : Nat → List (T × T)
  | 0 => [(.xor (.xor (.s 4) (.s 3)) (.and (.s 1) (.not (.xor (.xor (.s 0) (.s 4)) (.and (.xor (.xor (.s 2) (.s 1)) (.k 240)) (.not (.s 1)))))), .s 9),
    (.xor (.xor (.s 1) (.and (.s 3) (.s 7))) (.xor (.xor (.s 0) (.s 4)) (.and (.xor (.xor (.s 2) (.s 1)) (.k 240)) (.not (.s 1)))), .s 6),
    (.xor (.xor (.xor (.s 3) (.and (.xor (.s 0) (.s 4)) (.not (.xor (.s 4) (.s 3))))) (.xor (.xor (.s 2) (.s 1)) (.and (.xor (.s 4) (.s 3)) (.not (.s 3))))) (.k 240), .s 8),
    (.xor (.xor (.xor (.s 0) (.s 4)) (.and (.xor (.xor (.s 2) (.s 1)) (.k 240)) (.not (.s 1)))) (.s 9), .s 5),
    (.not (.xor (.xor (.xor (.s 2) (.s 1)) (.and (.xor (.s 4) (.s 3)) (.not (.s 3)))) (.k 240)), .s 7),
    (.xor (.s 5) (.xor (.or (.shl (.s 5) 45) (.shr (.s 5) 19)) (.or (.shl (.s 5) 36) (.shr (.s 5) 28))), .s 10),
    (.xor (.s 6) (.xor (.or (.shl (.s 6) 3) (.shr (.s 6) 61)) (.or (.shl (.s 6) 25) (.shr (.s 6) 39))), .s 11),
    (.xor (.s 7) (.xor (.or (.shl (.s 7) 63) (.shr (.s 7) 1)) (.or (.shl (.s 7) 58) (.shr (.s 7) 6))), .s 12),
    (.xor (.s 8) (.xor (.or (.shl (.s 8) 54) (.shr (.s 8) 10)) (.or (.shl (.s 8) 47) (.shr (.s 8) 17))), .s 13),
    (.xor (.s 9) (.xor (.or (.shl (.s 9) 57) (.shr (.s 9) 7)) (.or (.shl (.s 9) 23) (.shr (.s 9) 41))), .s 14)]
  | 1 => [(.xor (.xor (.s 14) (.s 13)) (.and (.s 11) (.not (.xor (.xor (.s 10) (.s 14)) (.and (.xor (.xor (.s 12) (.s 11)) (.k 225)) (.not (.s 11)))))), .s 19),
    (.xor (.xor (.s 11) (.and (.s 13) (.s 17))) (.xor (.xor (.s 10) (.s 14)) (.and (.xor (.xor (.s 12) (.s 11)) (.k 225)) (.not (.s 11)))), .s 16),
    (.xor (.xor (.xor (.s 13) (.and (.xor (.s 10) (.s 14)) (.not (.xor (.s 14) (.s 13))))) (.xor (.xor (.s 12) (.s 11)) (.and (.xor (.s 14) (.s 13)) (.not (.s 13))))) (.k 225), .s 18),
    (.xor (.xor (.xor (.s 10) (.s 14)) (.and (.xor (.xor (.s 12) (.s 11)) (.k 225)) (.not (.s 11)))) (.s 19), .s 15),
    (.not (.xor (.xor (.xor (.s 12) (.s 11)) (.and (.xor (.s 14) (.s 13)) (.not (.s 13)))) (.k 225)), .s 17),
    (.xor (.s 15) (.xor (.or (.shl (.s 15) 45) (.shr (.s 15) 19)) (.or (.shl (.s 15) 36) (.shr (.s 15) 28))), .s 20),
    (.xor (.s 16) (.xor (.or (.shl (.s 16) 3) (.shr (.s 16) 61)) (.or (.shl (.s 16) 25) (.shr (.s 16) 39))), .s 21),
    (.xor (.s 17) (.xor (.or (.shl (.s 17) 63) (.shr (.s 17) 1)) (.or (.shl (.s 17) 58) (.shr (.s 17) 6))), .s 22),
    (.xor (.s 18) (.xor (.or (.shl (.s 18) 54) (.shr (.s 18) 10)) (.or (.shl (.s 18) 47) (.shr (.s 18) 17))), .s 23),
    (.xor (.s 19) (.xor (.or (.shl (.s 19) 57) (.shr (.s 19) 7)) (.or (.shl (.s 19) 23) (.shr (.s 19) 41))), .s 24)]
  | 2 => [(.xor (.xor (.s 24) (.s 23)) (.and (.s 21) (.not (.xor (.xor (.s 20) (.s 24)) (.and (.xor (.xor (.s 22) (.s 21)) (.k 210)) (.not (.s 21)))))), .s 29),
    (.xor (.xor (.s 21) (.and (.s 23) (.s 27))) (.xor (.xor (.s 20) (.s 24)) (.and (.xor (.xor (.s 22) (.s 21)) (.k 210)) (.not (.s 21)))), .s 26),
    (.xor (.xor (.xor (.s 23) (.and (.xor (.s 20) (.s 24)) (.not (.xor (.s 24) (.s 23))))) (.xor (.xor (.s 22) (.s 21)) (.and (.xor (.s 24) (.s 23)) (.not (.s 23))))) (.k 210), .s 28),
    (.xor (.xor (.xor (.s 20) (.s 24)) (.and (.xor (.xor (.s 22) (.s 21)) (.k 210)) (.not (.s 21)))) (.s 29), .s 25),
    (.not (.xor (.xor (.xor (.s 22) (.s 21)) (.and (.xor (.s 24) (.s 23)) (.not (.s 23)))) (.k 210)), .s 27),
    (.xor (.s 25) (.xor (.or (.shl (.s 25) 45) (.shr (.s 25) 19)) (.or (.shl (.s 25) 36) (.shr (.s 25) 28))), .s 30),
    (.xor (.s 26) (.xor (.or (.shl (.s 26) 3) (.shr (.s 26) 61)) (.or (.shl (.s 26) 25) (.shr (.s 26) 39))), .s 31),
    (.xor (.s 27) (.xor (.or (.shl (.s 27) 63) (.shr (.s 27) 1)) (.or (.shl (.s 27) 58) (.shr (.s 27) 6))), .s 32),
    (.xor (.s 28) (.xor (.or (.shl (.s 28) 54) (.shr (.s 28) 10)) (.or (.shl (.s 28) 47) (.shr (.s 28) 17))), .s 33),
    (.xor (.s 29) (.xor (.or (.shl (.s 29) 57) (.shr (.s 29) 7)) (.or (.shl (.s 29) 23) (.shr (.s 29) 41))), .s 34)]
  | 3 => [(.xor (.xor (.s 34) (.s 33)) (.and (.s 31) (.not (.xor (.xor (.s 30) (.s 34)) (.and (.xor (.xor (.s 32) (.s 31)) (.k 195)) (.not (.s 31)))))), .s 39),
    (.xor (.xor (.s 31) (.and (.s 33) (.s 37))) (.xor (.xor (.s 30) (.s 34)) (.and (.xor (.xor (.s 32) (.s 31)) (.k 195)) (.not (.s 31)))), .s 36),
    (.xor (.xor (.xor (.s 33) (.and (.xor (.s 30) (.s 34)) (.not (.xor (.s 34) (.s 33))))) (.xor (.xor (.s 32) (.s 31)) (.and (.xor (.s 34) (.s 33)) (.not (.s 33))))) (.k 195), .s 38),
    (.xor (.xor (.xor (.s 30) (.s 34)) (.and (.xor (.xor (.s 32) (.s 31)) (.k 195)) (.not (.s 31)))) (.s 39), .s 35),
    (.not (.xor (.xor (.xor (.s 32) (.s 31)) (.and (.xor (.s 34) (.s 33)) (.not (.s 33)))) (.k 195)), .s 37),
    (.xor (.s 35) (.xor (.or (.shl (.s 35) 45) (.shr (.s 35) 19)) (.or (.shl (.s 35) 36) (.shr (.s 35) 28))), .s 40),
    (.xor (.s 36) (.xor (.or (.shl (.s 36) 3) (.shr (.s 36) 61)) (.or (.shl (.s 36) 25) (.shr (.s 36) 39))), .s 41),
    (.xor (.s 37) (.xor (.or (.shl (.s 37) 63) (.shr (.s 37) 1)) (.or (.shl (.s 37) 58) (.shr (.s 37) 6))), .s 42),
    (.xor (.s 38) (.xor (.or (.shl (.s 38) 54) (.shr (.s 38) 10)) (.or (.shl (.s 38) 47) (.shr (.s 38) 17))), .s 43),
    (.xor (.s 39) (.xor (.or (.shl (.s 39) 57) (.shr (.s 39) 7)) (.or (.shl (.s 39) 23) (.shr (.s 39) 41))), .s 44)]
  | 4 => [(.xor (.xor (.s 44) (.s 43)) (.and (.s 41) (.not (.xor (.xor (.s 40) (.s 44)) (.and (.xor (.xor (.s 42) (.s 41)) (.k 180)) (.not (.s 41)))))), .s 49),
    (.xor (.xor (.s 41) (.and (.s 43) (.s 47))) (.xor (.xor (.s 40) (.s 44)) (.and (.xor (.xor (.s 42) (.s 41)) (.k 180)) (.not (.s 41)))), .s 46),
    (.xor (.xor (.xor (.s 43) (.and (.xor (.s 40) (.s 44)) (.not (.xor (.s 44) (.s 43))))) (.xor (.xor (.s 42) (.s 41)) (.and (.xor (.s 44) (.s 43)) (.not (.s 43))))) (.k 180), .s 48),
    (.xor (.xor (.xor (.s 40) (.s 44)) (.and (.xor (.xor (.s 42) (.s 41)) (.k 180)) (.not (.s 41)))) (.s 49), .s 45),
    (.not (.xor (.xor (.xor (.s 42) (.s 41)) (.and (.xor (.s 44) (.s 43)) (.not (.s 43)))) (.k 180)), .s 47),
    (.xor (.s 45) (.xor (.or (.shl (.s 45) 45) (.shr (.s 45) 19)) (.or (.shl (.s 45) 36) (.shr (.s 45) 28))), .s 50),
    (.xor (.s 46) (.xor (.or (.shl (.s 46) 3) (.shr (.s 46) 61)) (.or (.shl (.s 46) 25) (.shr (.s 46) 39))), .s 51),
    (.xor (.s 47) (.xor (.or (.shl (.s 47) 63) (.shr (.s 47) 1)) (.or (.shl (.s 47) 58) (.shr (.s 47) 6))), .s 52),
    (.xor (.s 48) (.xor (.or (.shl (.s 48) 54) (.shr (.s 48) 10)) (.or (.shl (.s 48) 47) (.shr (.s 48) 17))), .s 53),
    (.xor (.s 49) (.xor (.or (.shl (.s 49) 57) (.shr (.s 49) 7)) (.or (.shl (.s 49) 23) (.shr (.s 49) 41))), .s 54)]
  | 5 => [(.xor (.xor (.s 54) (.s 53)) (.and (.s 51) (.not (.xor (.xor (.s 50) (.s 54)) (.and (.xor (.xor (.s 52) (.s 51)) (.k 165)) (.not (.s 51)))))), .s 59),
    (.xor (.xor (.s 51) (.and (.s 53) (.s 57))) (.xor (.xor (.s 50) (.s 54)) (.and (.xor (.xor (.s 52) (.s 51)) (.k 165)) (.not (.s 51)))), .s 56),
    (.xor (.xor (.xor (.s 53) (.and (.xor (.s 50) (.s 54)) (.not (.xor (.s 54) (.s 53))))) (.xor (.xor (.s 52) (.s 51)) (.and (.xor (.s 54) (.s 53)) (.not (.s 53))))) (.k 165), .s 58),
    (.xor (.xor (.xor (.s 50) (.s 54)) (.and (.xor (.xor (.s 52) (.s 51)) (.k 165)) (.not (.s 51)))) (.s 59), .s 55),
    (.not (.xor (.xor (.xor (.s 52) (.s 51)) (.and (.xor (.s 54) (.s 53)) (.not (.s 53)))) (.k 165)), .s 57),
    (.xor (.s 55) (.xor (.or (.shl (.s 55) 45) (.shr (.s 55) 19)) (.or (.shl (.s 55) 36) (.shr (.s 55) 28))), .s 60),
    (.xor (.s 56) (.xor (.or (.shl (.s 56) 3) (.shr (.s 56) 61)) (.or (.shl (.s 56) 25) (.shr (.s 56) 39))), .s 61),
    (.xor (.s 57) (.xor (.or (.shl (.s 57) 63) (.shr (.s 57) 1)) (.or (.shl (.s 57) 58) (.shr (.s 57) 6))), .s 62),
    (.xor (.s 58) (.xor (.or (.shl (.s 58) 54) (.shr (.s 58) 10)) (.or (.shl (.s 58) 47) (.shr (.s 58) 17))), .s 63),
    (.xor (.s 59) (.xor (.or (.shl (.s 59) 57) (.shr (.s 59) 7)) (.or (.shl (.s 59) 23) (.shr (.s 59) 41))), .s 64)]
  | 6 => [(.xor (.xor (.s 64) (.s 63)) (.and (.s 61) (.not (.xor (.xor (.s 60) (.s 64)) (.and (.xor (.xor (.s 62) (.s 61)) (.k 150)) (.not (.s 61)))))), .s 69),
    (.xor (.xor (.s 61) (.and (.s 63) (.s 67))) (.xor (.xor (.s 60) (.s 64)) (.and (.xor (.xor (.s 62) (.s 61)) (.k 150)) (.not (.s 61)))), .s 66),
    (.xor (.xor (.xor (.s 63) (.and (.xor (.s 60) (.s 64)) (.not (.xor (.s 64) (.s 63))))) (.xor (.xor (.s 62) (.s 61)) (.and (.xor (.s 64) (.s 63)) (.not (.s 63))))) (.k 150), .s 68),
    (.xor (.xor (.xor (.s 60) (.s 64)) (.and (.xor (.xor (.s 62) (.s 61)) (.k 150)) (.not (.s 61)))) (.s 69), .s 65),
    (.not (.xor (.xor (.xor (.s 62) (.s 61)) (.and (.xor (.s 64) (.s 63)) (.not (.s 63)))) (.k 150)), .s 67),
    (.xor (.s 65) (.xor (.or (.shl (.s 65) 45) (.shr (.s 65) 19)) (.or (.shl (.s 65) 36) (.shr (.s 65) 28))), .s 70),
    (.xor (.s 66) (.xor (.or (.shl (.s 66) 3) (.shr (.s 66) 61)) (.or (.shl (.s 66) 25) (.shr (.s 66) 39))), .s 71),
    (.xor (.s 67) (.xor (.or (.shl (.s 67) 63) (.shr (.s 67) 1)) (.or (.shl (.s 67) 58) (.shr (.s 67) 6))), .s 72),
    (.xor (.s 68) (.xor (.or (.shl (.s 68) 54) (.shr (.s 68) 10)) (.or (.shl (.s 68) 47) (.shr (.s 68) 17))), .s 73),
    (.xor (.s 69) (.xor (.or (.shl (.s 69) 57) (.shr (.s 69) 7)) (.or (.shl (.s 69) 23) (.shr (.s 69) 41))), .s 74)]
  | 7 => [(.xor (.xor (.s 74) (.s 73)) (.and (.s 71) (.not (.xor (.xor (.s 70) (.s 74)) (.and (.xor (.xor (.s 72) (.s 71)) (.k 135)) (.not (.s 71)))))), .s 79),
    (.xor (.xor (.s 71) (.and (.s 73) (.s 77))) (.xor (.xor (.s 70) (.s 74)) (.and (.xor (.xor (.s 72) (.s 71)) (.k 135)) (.not (.s 71)))), .s 76),
    (.xor (.xor (.xor (.s 73) (.and (.xor (.s 70) (.s 74)) (.not (.xor (.s 74) (.s 73))))) (.xor (.xor (.s 72) (.s 71)) (.and (.xor (.s 74) (.s 73)) (.not (.s 73))))) (.k 135), .s 78),
    (.xor (.xor (.xor (.s 70) (.s 74)) (.and (.xor (.xor (.s 72) (.s 71)) (.k 135)) (.not (.s 71)))) (.s 79), .s 75),
    (.not (.xor (.xor (.xor (.s 72) (.s 71)) (.and (.xor (.s 74) (.s 73)) (.not (.s 73)))) (.k 135)), .s 77),
    (.xor (.s 75) (.xor (.or (.shl (.s 75) 45) (.shr (.s 75) 19)) (.or (.shl (.s 75) 36) (.shr (.s 75) 28))), .s 80),
    (.xor (.s 76) (.xor (.or (.shl (.s 76) 3) (.shr (.s 76) 61)) (.or (.shl (.s 76) 25) (.shr (.s 76) 39))), .s 81),
    (.xor (.s 77) (.xor (.or (.shl (.s 77) 63) (.shr (.s 77) 1)) (.or (.shl (.s 77) 58) (.shr (.s 77) 6))), .s 82),
    (.xor (.s 78) (.xor (.or (.shl (.s 78) 54) (.shr (.s 78) 10)) (.or (.shl (.s 78) 47) (.shr (.s 78) 17))), .s 83),
    (.xor (.s 79) (.xor (.or (.shl (.s 79) 57) (.shr (.s 79) 7)) (.or (.shl (.s 79) 23) (.shr (.s 79) 41))), .s 84)]
  | 8 => [(.xor (.xor (.s 84) (.s 83)) (.and (.s 81) (.not (.xor (.xor (.s 80) (.s 84)) (.and (.xor (.xor (.s 82) (.s 81)) (.k 120)) (.not (.s 81)))))), .s 89),
    (.xor (.xor (.s 81) (.and (.s 83) (.s 87))) (.xor (.xor (.s 80) (.s 84)) (.and (.xor (.xor (.s 82) (.s 81)) (.k 120)) (.not (.s 81)))), .s 86),
    (.xor (.xor (.xor (.s 83) (.and (.xor (.s 80) (.s 84)) (.not (.xor (.s 84) (.s 83))))) (.xor (.xor (.s 82) (.s 81)) (.and (.xor (.s 84) (.s 83)) (.not (.s 83))))) (.k 120), .s 88),
    (.xor (.xor (.xor (.s 80) (.s 84)) (.and (.xor (.xor (.s 82) (.s 81)) (.k 120)) (.not (.s 81)))) (.s 89), .s 85),
    (.not (.xor (.xor (.xor (.s 82) (.s 81)) (.and (.xor (.s 84) (.s 83)) (.not (.s 83)))) (.k 120)), .s 87),
    (.xor (.s 85) (.xor (.or (.shl (.s 85) 45) (.shr (.s 85) 19)) (.or (.shl (.s 85) 36) (.shr (.s 85) 28))), .s 90),
    (.xor (.s 86) (.xor (.or (.shl (.s 86) 3) (.shr (.s 86) 61)) (.or (.shl (.s 86) 25) (.shr (.s 86) 39))), .s 91),
    (.xor (.s 87) (.xor (.or (.shl (.s 87) 63) (.shr (.s 87) 1)) (.or (.shl (.s 87) 58) (.shr (.s 87) 6))), .s 92),
    (.xor (.s 88) (.xor (.or (.shl (.s 88) 54) (.shr (.s 88) 10)) (.or (.shl (.s 88) 47) (.shr (.s 88) 17))), .s 93),
    (.xor (.s 89) (.xor (.or (.shl (.s 89) 57) (.shr (.s 89) 7)) (.or (.shl (.s 89) 23) (.shr (.s 89) 41))), .s 94)]
  | 9 => [(.xor (.xor (.s 94) (.s 93)) (.and (.s 91) (.not (.xor (.xor (.s 90) (.s 94)) (.and (.xor (.xor (.s 92) (.s 91)) (.k 105)) (.not (.s 91)))))), .s 99),
    (.xor (.xor (.s 91) (.and (.s 93) (.s 97))) (.xor (.xor (.s 90) (.s 94)) (.and (.xor (.xor (.s 92) (.s 91)) (.k 105)) (.not (.s 91)))), .s 96),
    (.xor (.xor (.xor (.s 93) (.and (.xor (.s 90) (.s 94)) (.not (.xor (.s 94) (.s 93))))) (.xor (.xor (.s 92) (.s 91)) (.and (.xor (.s 94) (.s 93)) (.not (.s 93))))) (.k 105), .s 98),
    (.xor (.xor (.xor (.s 90) (.s 94)) (.and (.xor (.xor (.s 92) (.s 91)) (.k 105)) (.not (.s 91)))) (.s 99), .s 95),
    (.not (.xor (.xor (.xor (.s 92) (.s 91)) (.and (.xor (.s 94) (.s 93)) (.not (.s 93)))) (.k 105)), .s 97),
    (.xor (.s 95) (.xor (.or (.shl (.s 95) 45) (.shr (.s 95) 19)) (.or (.shl (.s 95) 36) (.shr (.s 95) 28))), .s 100),
    (.xor (.s 96) (.xor (.or (.shl (.s 96) 3) (.shr (.s 96) 61)) (.or (.shl (.s 96) 25) (.shr (.s 96) 39))), .s 101),
    (.xor (.s 97) (.xor (.or (.shl (.s 97) 63) (.shr (.s 97) 1)) (.or (.shl (.s 97) 58) (.shr (.s 97) 6))), .s 102),
    (.xor (.s 98) (.xor (.or (.shl (.s 98) 54) (.shr (.s 98) 10)) (.or (.shl (.s 98) 47) (.shr (.s 98) 17))), .s 103),
    (.xor (.s 99) (.xor (.or (.shl (.s 99) 57) (.shr (.s 99) 7)) (.or (.shl (.s 99) 23) (.shr (.s 99) 41))), .s 104)]
  | 10 => [(.xor (.xor (.s 104) (.s 103)) (.and (.s 101) (.not (.xor (.xor (.s 100) (.s 104)) (.and (.xor (.xor (.s 102) (.s 101)) (.k 90)) (.not (.s 101)))))), .s 109),
    (.xor (.xor (.s 101) (.and (.s 103) (.s 107))) (.xor (.xor (.s 100) (.s 104)) (.and (.xor (.xor (.s 102) (.s 101)) (.k 90)) (.not (.s 101)))), .s 106),
    (.xor (.xor (.xor (.s 103) (.and (.xor (.s 100) (.s 104)) (.not (.xor (.s 104) (.s 103))))) (.xor (.xor (.s 102) (.s 101)) (.and (.xor (.s 104) (.s 103)) (.not (.s 103))))) (.k 90), .s 108),
    (.xor (.xor (.xor (.s 100) (.s 104)) (.and (.xor (.xor (.s 102) (.s 101)) (.k 90)) (.not (.s 101)))) (.s 109), .s 105),
    (.not (.xor (.xor (.xor (.s 102) (.s 101)) (.and (.xor (.s 104) (.s 103)) (.not (.s 103)))) (.k 90)), .s 107),
    (.xor (.s 105) (.xor (.or (.shl (.s 105) 45) (.shr (.s 105) 19)) (.or (.shl (.s 105) 36) (.shr (.s 105) 28))), .s 110),
    (.xor (.s 106) (.xor (.or (.shl (.s 106) 3) (.shr (.s 106) 61)) (.or (.shl (.s 106) 25) (.shr (.s 106) 39))), .s 111),
    (.xor (.s 107) (.xor (.or (.shl (.s 107) 63) (.shr (.s 107) 1)) (.or (.shl (.s 107) 58) (.shr (.s 107) 6))), .s 112),
    (.xor (.s 108) (.xor (.or (.shl (.s 108) 54) (.shr (.s 108) 10)) (.or (.shl (.s 108) 47) (.shr (.s 108) 17))), .s 113),
    (.xor (.s 109) (.xor (.or (.shl (.s 109) 57) (.shr (.s 109) 7)) (.or (.shl (.s 109) 23) (.shr (.s 109) 41))), .s 114)]
  | 11 => [(.xor (.xor (.s 114) (.s 113)) (.and (.s 111) (.not (.xor (.xor (.s 110) (.s 114)) (.and (.xor (.xor (.s 112) (.s 111)) (.k 75)) (.not (.s 111)))))), .s 119),
    (.xor (.xor (.s 111) (.and (.s 113) (.s 117))) (.xor (.xor (.s 110) (.s 114)) (.and (.xor (.xor (.s 112) (.s 111)) (.k 75)) (.not (.s 111)))), .s 116),
    (.xor (.xor (.xor (.s 113) (.and (.xor (.s 110) (.s 114)) (.not (.xor (.s 114) (.s 113))))) (.xor (.xor (.s 112) (.s 111)) (.and (.xor (.s 114) (.s 113)) (.not (.s 113))))) (.k 75), .s 118),
    (.xor (.xor (.xor (.s 110) (.s 114)) (.and (.xor (.xor (.s 112) (.s 111)) (.k 75)) (.not (.s 111)))) (.s 119), .s 115),
    (.not (.xor (.xor (.xor (.s 112) (.s 111)) (.and (.xor (.s 114) (.s 113)) (.not (.s 113)))) (.k 75)), .s 117),
    (.xor (.s 115) (.xor (.or (.shl (.s 115) 45) (.shr (.s 115) 19)) (.or (.shl (.s 115) 36) (.shr (.s 115) 28))), .s 120),
    (.xor (.s 116) (.xor (.or (.shl (.s 116) 3) (.shr (.s 116) 61)) (.or (.shl (.s 116) 25) (.shr (.s 116) 39))), .s 121),
    (.xor (.s 117) (.xor (.or (.shl (.s 117) 63) (.shr (.s 117) 1)) (.or (.shl (.s 117) 58) (.shr (.s 117) 6))), .s 122),
    (.xor (.s 118) (.xor (.or (.shl (.s 118) 54) (.shr (.s 118) 10)) (.or (.shl (.s 118) 47) (.shr (.s 118) 17))), .s 123),
    (.xor (.s 119) (.xor (.or (.shl (.s 119) 57) (.shr (.s 119) 7)) (.or (.shl (.s 119) 23) (.shr (.s 119) 41))), .s 124)]
  | _ => []
theorem implL_eq0 : implL 0 = implR 0 0 := by kernel_rfl
theorem implL_eq1 : implL 1 = implR 10 1 := by kernel_rfl
theorem implL_eq2 : implL 2 = implR 20 2 := by kernel_rfl
theorem implL_eq3 : implL 3 = implR 30 3 := by kernel_rfl
theorem implL_eq4 : implL 4 = implR 40 4 := by kernel_rfl
theorem implL_eq5 : implL 5 = implR 50 5 := by kernel_rfl
theorem implL_eq6 : implL 6 = implR 60 6 := by kernel_rfl
theorem implL_eq7 : implL 7 = implR 70 7 := by kernel_rfl
theorem implL_eq8 : implL 8 = implR 80 8 := by kernel_rfl
theorem implL_eq9 : implL 9 = implR 90 9 := by kernel_rfl
theorem implL_eq10 : implL 10 = implR 100 10 := by kernel_rfl
theorem implL_eq11 : implL 11 = implR 110 11 := by kernel_rfl
theorem implL_eq : ∀ i, i < 12 → implL i = implR (10 * i) i
  | 0, _ => implL_eq0
  | 1, _ => implL_eq1
  | 2, _ => implL_eq2
  | 3, _ => implL_eq3
  | 4, _ => implL_eq4
  | 5, _ => implL_eq5
  | 6, _ => implL_eq6
  | 7, _ => implL_eq7
  | 8, _ => implL_eq8
  | 9, _ => implL_eq9
  | 10, _ => implL_eq10
  | 11, _ => implL_eq11
  | n + 12, h => absurd h (by omega)
def specL : Nat → List (T × T)
  | 0 => [(.xor (.xor (.s 4) (.s 3)) (.and (.not (.xor (.s 0) (.s 4))) (.s 1)), .s 9),
    (.xor (.xor (.s 1) (.and (.not (.xor (.xor (.s 2) (.s 1)) (.k 240))) (.s 3))) (.xor (.xor (.s 0) (.s 4)) (.and (.not (.s 1)) (.xor (.xor (.s 2) (.s 1)) (.k 240)))), .s 6),
    (.xor (.xor (.xor (.s 0) (.s 4)) (.and (.not (.s 1)) (.xor (.xor (.s 2) (.s 1)) (.k 240)))) (.s 9), .s 5),
    (.xor (.xor (.xor (.s 3) (.and (.not (.xor (.s 4) (.s 3))) (.xor (.s 0) (.s 4)))) (.xor (.xor (.s 2) (.s 1)) (.and (.not (.s 3)) (.xor (.s 4) (.s 3))))) (.k 240), .s 8),
    (.not (.xor (.xor (.xor (.s 2) (.s 1)) (.and (.not (.s 3)) (.xor (.s 4) (.s 3)))) (.k 240)), .s 7),
    (.xor (.xor (.s 5) (.or (.shl (.s 5) 45) (.shr (.s 5) 19))) (.or (.shl (.s 5) 36) (.shr (.s 5) 28)), .s 10),
    (.xor (.xor (.s 6) (.or (.shl (.s 6) 3) (.shr (.s 6) 61))) (.or (.shl (.s 6) 25) (.shr (.s 6) 39)), .s 11),
    (.xor (.xor (.s 7) (.or (.shl (.s 7) 63) (.shr (.s 7) 1))) (.or (.shl (.s 7) 58) (.shr (.s 7) 6)), .s 12),
    (.xor (.xor (.s 8) (.or (.shl (.s 8) 54) (.shr (.s 8) 10))) (.or (.shl (.s 8) 47) (.shr (.s 8) 17)), .s 13),
    (.xor (.xor (.s 9) (.or (.shl (.s 9) 57) (.shr (.s 9) 7))) (.or (.shl (.s 9) 23) (.shr (.s 9) 41)), .s 14)]
  | 1 => [(.xor (.xor (.s 14) (.s 13)) (.and (.not (.xor (.s 10) (.s 14))) (.s 11)), .s 19),
    (.xor (.xor (.s 11) (.and (.not (.xor (.xor (.s 12) (.s 11)) (.k 225))) (.s 13))) (.xor (.xor (.s 10) (.s 14)) (.and (.not (.s 11)) (.xor (.xor (.s 12) (.s 11)) (.k 225)))), .s 16),
    (.xor (.xor (.xor (.s 10) (.s 14)) (.and (.not (.s 11)) (.xor (.xor (.s 12) (.s 11)) (.k 225)))) (.s 19), .s 15),
    (.xor (.xor (.xor (.s 13) (.and (.not (.xor (.s 14) (.s 13))) (.xor (.s 10) (.s 14)))) (.xor (.xor (.s 12) (.s 11)) (.and (.not (.s 13)) (.xor (.s 14) (.s 13))))) (.k 225), .s 18),
    (.not (.xor (.xor (.xor (.s 12) (.s 11)) (.and (.not (.s 13)) (.xor (.s 14) (.s 13)))) (.k 225)), .s 17),
    (.xor (.xor (.s 15) (.or (.shl (.s 15) 45) (.shr (.s 15) 19))) (.or (.shl (.s 15) 36) (.shr (.s 15) 28)), .s 20),
    (.xor (.xor (.s 16) (.or (.shl (.s 16) 3) (.shr (.s 16) 61))) (.or (.shl (.s 16) 25) (.shr (.s 16) 39)), .s 21),
    (.xor (.xor (.s 17) (.or (.shl (.s 17) 63) (.shr (.s 17) 1))) (.or (.shl (.s 17) 58) (.shr (.s 17) 6)), .s 22),
    (.xor (.xor (.s 18) (.or (.shl (.s 18) 54) (.shr (.s 18) 10))) (.or (.shl (.s 18) 47) (.shr (.s 18) 17)), .s 23),
    (.xor (.xor (.s 19) (.or (.shl (.s 19) 57) (.shr (.s 19) 7))) (.or (.shl (.s 19) 23) (.shr (.s 19) 41)), .s 24)]
  | 2 => [(.xor (.xor (.s 24) (.s 23)) (.and (.not (.xor (.s 20) (.s 24))) (.s 21)), .s 29),
    (.xor (.xor (.s 21) (.and (.not (.xor (.xor (.s 22) (.s 21)) (.k 210))) (.s 23))) (.xor (.xor (.s 20) (.s 24)) (.and (.not (.s 21)) (.xor (.xor (.s 22) (.s 21)) (.k 210)))), .s 26),
    (.xor (.xor (.xor (.s 20) (.s 24)) (.and (.not (.s 21)) (.xor (.xor (.s 22) (.s 21)) (.k 210)))) (.s 29), .s 25),
    (.xor (.xor (.xor (.s 23) (.and (.not (.xor (.s 24) (.s 23))) (.xor (.s 20) (.s 24)))) (.xor (.xor (.s 22) (.s 21)) (.and (.not (.s 23)) (.xor (.s 24) (.s 23))))) (.k 210), .s 28),
    (.not (.xor (.xor (.xor (.s 22) (.s 21)) (.and (.not (.s 23)) (.xor (.s 24) (.s 23)))) (.k 210)), .s 27),
    (.xor (.xor (.s 25) (.or (.shl (.s 25) 45) (.shr (.s 25) 19))) (.or (.shl (.s 25) 36) (.shr (.s 25) 28)), .s 30),
    (.xor (.xor (.s 26) (.or (.shl (.s 26) 3) (.shr (.s 26) 61))) (.or (.shl (.s 26) 25) (.shr (.s 26) 39)), .s 31),
    (.xor (.xor (.s 27) (.or (.shl (.s 27) 63) (.shr (.s 27) 1))) (.or (.shl (.s 27) 58) (.shr (.s 27) 6)), .s 32),
    (.xor (.xor (.s 28) (.or (.shl (.s 28) 54) (.shr (.s 28) 10))) (.or (.shl (.s 28) 47) (.shr (.s 28) 17)), .s 33),
    (.xor (.xor (.s 29) (.or (.shl (.s 29) 57) (.shr (.s 29) 7))) (.or (.shl (.s 29) 23) (.shr (.s 29) 41)), .s 34)]
  | 3 => [(.xor (.xor (.s 34) (.s 33)) (.and (.not (.xor (.s 30) (.s 34))) (.s 31)), .s 39),
    (.xor (.xor (.s 31) (.and (.not (.xor (.xor (.s 32) (.s 31)) (.k 195))) (.s 33))) (.xor (.xor (.s 30) (.s 34)) (.and (.not (.s 31)) (.xor (.xor (.s 32) (.s 31)) (.k 195)))), .s 36),
    (.xor (.xor (.xor (.s 30) (.s 34)) (.and (.not (.s 31)) (.xor (.xor (.s 32) (.s 31)) (.k 195)))) (.s 39), .s 35),
    (.xor (.xor (.xor (.s 33) (.and (.not (.xor (.s 34) (.s 33))) (.xor (.s 30) (.s 34)))) (.xor (.xor (.s 32) (.s 31)) (.and (.not (.s 33)) (.xor (.s 34) (.s 33))))) (.k 195), .s 38),
    (.not (.xor (.xor (.xor (.s 32) (.s 31)) (.and (.not (.s 33)) (.xor (.s 34) (.s 33)))) (.k 195)), .s 37),
    (.xor (.xor (.s 35) (.or (.shl (.s 35) 45) (.shr (.s 35) 19))) (.or (.shl (.s 35) 36) (.shr (.s 35) 28)), .s 40),
    (.xor (.xor (.s 36) (.or (.shl (.s 36) 3) (.shr (.s 36) 61))) (.or (.shl (.s 36) 25) (.shr (.s 36) 39)), .s 41),
    (.xor (.xor (.s 37) (.or (.shl (.s 37) 63) (.shr (.s 37) 1))) (.or (.shl (.s 37) 58) (.shr (.s 37) 6)), .s 42),
    (.xor (.xor (.s 38) (.or (.shl (.s 38) 54) (.shr (.s 38) 10))) (.or (.shl (.s 38) 47) (.shr (.s 38) 17)), .s 43),
    (.xor (.xor (.s 39) (.or (.shl (.s 39) 57) (.shr (.s 39) 7))) (.or (.shl (.s 39) 23) (.shr (.s 39) 41)), .s 44)]
  | 4 => [(.xor (.xor (.s 44) (.s 43)) (.and (.not (.xor (.s 40) (.s 44))) (.s 41)), .s 49),
    (.xor (.xor (.s 41) (.and (.not (.xor (.xor (.s 42) (.s 41)) (.k 180))) (.s 43))) (.xor (.xor (.s 40) (.s 44)) (.and (.not (.s 41)) (.xor (.xor (.s 42) (.s 41)) (.k 180)))), .s 46),
    (.xor (.xor (.xor (.s 40) (.s 44)) (.and (.not (.s 41)) (.xor (.xor (.s 42) (.s 41)) (.k 180)))) (.s 49), .s 45),
    (.xor (.xor (.xor (.s 43) (.and (.not (.xor (.s 44) (.s 43))) (.xor (.s 40) (.s 44)))) (.xor (.xor (.s 42) (.s 41)) (.and (.not (.s 43)) (.xor (.s 44) (.s 43))))) (.k 180), .s 48),
    (.not (.xor (.xor (.xor (.s 42) (.s 41)) (.and (.not (.s 43)) (.xor (.s 44) (.s 43)))) (.k 180)), .s 47),
    (.xor (.xor (.s 45) (.or (.shl (.s 45) 45) (.shr (.s 45) 19))) (.or (.shl (.s 45) 36) (.shr (.s 45) 28)), .s 50),
    (.xor (.xor (.s 46) (.or (.shl (.s 46) 3) (.shr (.s 46) 61))) (.or (.shl (.s 46) 25) (.shr (.s 46) 39)), .s 51),
    (.xor (.xor (.s 47) (.or (.shl (.s 47) 63) (.shr (.s 47) 1))) (.or (.shl (.s 47) 58) (.shr (.s 47) 6)), .s 52),
    (.xor (.xor (.s 48) (.or (.shl (.s 48) 54) (.shr (.s 48) 10))) (.or (.shl (.s 48) 47) (.shr (.s 48) 17)), .s 53),
    (.xor (.xor (.s 49) (.or (.shl (.s 49) 57) (.shr (.s 49) 7))) (.or (.shl (.s 49) 23) (.shr (.s 49) 41)), .s 54)]
  | 5 => [(.xor (.xor (.s 54) (.s 53)) (.and (.not (.xor (.s 50) (.s 54))) (.s 51)), .s 59),
    (.xor (.xor (.s 51) (.and (.not (.xor (.xor (.s 52) (.s 51)) (.k 165))) (.s 53))) (.xor (.xor (.s 50) (.s 54)) (.and (.not (.s 51)) (.xor (.xor (.s 52) (.s 51)) (.k 165)))), .s 56),
    (.xor (.xor (.xor (.s 50) (.s 54)) (.and (.not (.s 51)) (.xor (.xor (.s 52) (.s 51)) (.k 165)))) (.s 59), .s 55),
    (.xor (.xor (.xor (.s 53) (.and (.not (.xor (.s 54) (.s 53))) (.xor (.s 50) (.s 54)))) (.xor (.xor (.s 52) (.s 51)) (.and (.not (.s 53)) (.xor (.s 54) (.s 53))))) (.k 165), .s 58),
    (.not (.xor (.xor (.xor (.s 52) (.s 51)) (.and (.not (.s 53)) (.xor (.s 54) (.s 53)))) (.k 165)), .s 57),
    (.xor (.xor (.s 55) (.or (.shl (.s 55) 45) (.shr (.s 55) 19))) (.or (.shl (.s 55) 36) (.shr (.s 55) 28)), .s 60),
    (.xor (.xor (.s 56) (.or (.shl (.s 56) 3) (.shr (.s 56) 61))) (.or (.shl (.s 56) 25) (.shr (.s 56) 39)), .s 61),
    (.xor (.xor (.s 57) (.or (.shl (.s 57) 63) (.shr (.s 57) 1))) (.or (.shl (.s 57) 58) (.shr (.s 57) 6)), .s 62),
    (.xor (.xor (.s 58) (.or (.shl (.s 58) 54) (.shr (.s 58) 10))) (.or (.shl (.s 58) 47) (.shr (.s 58) 17)), .s 63),
    (.xor (.xor (.s 59) (.or (.shl (.s 59) 57) (.shr (.s 59) 7))) (.or (.shl (.s 59) 23) (.shr (.s 59) 41)), .s 64)]
  | 6 => [(.xor (.xor (.s 64) (.s 63)) (.and (.not (.xor (.s 60) (.s 64))) (.s 61)), .s 69),
    (.xor (.xor (.s 61) (.and (.not (.xor (.xor (.s 62) (.s 61)) (.k 150))) (.s 63))) (.xor (.xor (.s 60) (.s 64)) (.and (.not (.s 61)) (.xor (.xor (.s 62) (.s 61)) (.k 150)))), .s 66),
    (.xor (.xor (.xor (.s 60) (.s 64)) (.and (.not (.s 61)) (.xor (.xor (.s 62) (.s 61)) (.k 150)))) (.s 69), .s 65),
    (.xor (.xor (.xor (.s 63) (.and (.not (.xor (.s 64) (.s 63))) (.xor (.s 60) (.s 64)))) (.xor (.xor (.s 62) (.s 61)) (.and (.not (.s 63)) (.xor (.s 64) (.s 63))))) (.k 150), .s 68),
    (.not (.xor (.xor (.xor (.s 62) (.s 61)) (.and (.not (.s 63)) (.xor (.s 64) (.s 63)))) (.k 150)), .s 67),
    (.xor (.xor (.s 65) (.or (.shl (.s 65) 45) (.shr (.s 65) 19))) (.or (.shl (.s 65) 36) (.shr (.s 65) 28)), .s 70),
    (.xor (.xor (.s 66) (.or (.shl (.s 66) 3) (.shr (.s 66) 61))) (.or (.shl (.s 66) 25) (.shr (.s 66) 39)), .s 71),
    (.xor (.xor (.s 67) (.or (.shl (.s 67) 63) (.shr (.s 67) 1))) (.or (.shl (.s 67) 58) (.shr (.s 67) 6)), .s 72),
    (.xor (.xor (.s 68) (.or (.shl (.s 68) 54) (.shr (.s 68) 10))) (.or (.shl (.s 68) 47) (.shr (.s 68) 17)), .s 73),
    (.xor (.xor (.s 69) (.or (.shl (.s 69) 57) (.shr (.s 69) 7))) (.or (.shl (.s 69) 23) (.shr (.s 69) 41)), .s 74)]
  | 7 => [(.xor (.xor (.s 74) (.s 73)) (.and (.not (.xor (.s 70) (.s 74))) (.s 71)), .s 79),
    (.xor (.xor (.s 71) (.and (.not (.xor (.xor (.s 72) (.s 71)) (.k 135))) (.s 73))) (.xor (.xor (.s 70) (.s 74)) (.and (.not (.s 71)) (.xor (.xor (.s 72) (.s 71)) (.k 135)))), .s 76),
    (.xor (.xor (.xor (.s 70) (.s 74)) (.and (.not (.s 71)) (.xor (.xor (.s 72) (.s 71)) (.k 135)))) (.s 79), .s 75),
    (.xor (.xor (.xor (.s 73) (.and (.not (.xor (.s 74) (.s 73))) (.xor (.s 70) (.s 74)))) (.xor (.xor (.s 72) (.s 71)) (.and (.not (.s 73)) (.xor (.s 74) (.s 73))))) (.k 135), .s 78),
    (.not (.xor (.xor (.xor (.s 72) (.s 71)) (.and (.not (.s 73)) (.xor (.s 74) (.s 73)))) (.k 135)), .s 77),
    (.xor (.xor (.s 75) (.or (.shl (.s 75) 45) (.shr (.s 75) 19))) (.or (.shl (.s 75) 36) (.shr (.s 75) 28)), .s 80),
    (.xor (.xor (.s 76) (.or (.shl (.s 76) 3) (.shr (.s 76) 61))) (.or (.shl (.s 76) 25) (.shr (.s 76) 39)), .s 81),
    (.xor (.xor (.s 77) (.or (.shl (.s 77) 63) (.shr (.s 77) 1))) (.or (.shl (.s 77) 58) (.shr (.s 77) 6)), .s 82),
    (.xor (.xor (.s 78) (.or (.shl (.s 78) 54) (.shr (.s 78) 10))) (.or (.shl (.s 78) 47) (.shr (.s 78) 17)), .s 83),
    (.xor (.xor (.s 79) (.or (.shl (.s 79) 57) (.shr (.s 79) 7))) (.or (.shl (.s 79) 23) (.shr (.s 79) 41)), .s 84)]
  | 8 => [(.xor (.xor (.s 84) (.s 83)) (.and (.not (.xor (.s 80) (.s 84))) (.s 81)), .s 89),
    (.xor (.xor (.s 81) (.and (.not (.xor (.xor (.s 82) (.s 81)) (.k 120))) (.s 83))) (.xor (.xor (.s 80) (.s 84)) (.and (.not (.s 81)) (.xor (.xor (.s 82) (.s 81)) (.k 120)))), .s 86),
    (.xor (.xor (.xor (.s 80) (.s 84)) (.and (.not (.s 81)) (.xor (.xor (.s 82) (.s 81)) (.k 120)))) (.s 89), .s 85),
    (.xor (.xor (.xor (.s 83) (.and (.not (.xor (.s 84) (.s 83))) (.xor (.s 80) (.s 84)))) (.xor (.xor (.s 82) (.s 81)) (.and (.not (.s 83)) (.xor (.s 84) (.s 83))))) (.k 120), .s 88),
    (.not (.xor (.xor (.xor (.s 82) (.s 81)) (.and (.not (.s 83)) (.xor (.s 84) (.s 83)))) (.k 120)), .s 87),
    (.xor (.xor (.s 85) (.or (.shl (.s 85) 45) (.shr (.s 85) 19))) (.or (.shl (.s 85) 36) (.shr (.s 85) 28)), .s 90),
    (.xor (.xor (.s 86) (.or (.shl (.s 86) 3) (.shr (.s 86) 61))) (.or (.shl (.s 86) 25) (.shr (.s 86) 39)), .s 91),
    (.xor (.xor (.s 87) (.or (.shl (.s 87) 63) (.shr (.s 87) 1))) (.or (.shl (.s 87) 58) (.shr (.s 87) 6)), .s 92),
    (.xor (.xor (.s 88) (.or (.shl (.s 88) 54) (.shr (.s 88) 10))) (.or (.shl (.s 88) 47) (.shr (.s 88) 17)), .s 93),
    (.xor (.xor (.s 89) (.or (.shl (.s 89) 57) (.shr (.s 89) 7))) (.or (.shl (.s 89) 23) (.shr (.s 89) 41)), .s 94)]
  | 9 => [(.xor (.xor (.s 94) (.s 93)) (.and (.not (.xor (.s 90) (.s 94))) (.s 91)), .s 99),
    (.xor (.xor (.s 91) (.and (.not (.xor (.xor (.s 92) (.s 91)) (.k 105))) (.s 93))) (.xor (.xor (.s 90) (.s 94)) (.and (.not (.s 91)) (.xor (.xor (.s 92) (.s 91)) (.k 105)))), .s 96),
    (.xor (.xor (.xor (.s 90) (.s 94)) (.and (.not (.s 91)) (.xor (.xor (.s 92) (.s 91)) (.k 105)))) (.s 99), .s 95),
    (.xor (.xor (.xor (.s 93) (.and (.not (.xor (.s 94) (.s 93))) (.xor (.s 90) (.s 94)))) (.xor (.xor (.s 92) (.s 91)) (.and (.not (.s 93)) (.xor (.s 94) (.s 93))))) (.k 105), .s 98),
    (.not (.xor (.xor (.xor (.s 92) (.s 91)) (.and (.not (.s 93)) (.xor (.s 94) (.s 93)))) (.k 105)), .s 97),
    (.xor (.xor (.s 95) (.or (.shl (.s 95) 45) (.shr (.s 95) 19))) (.or (.shl (.s 95) 36) (.shr (.s 95) 28)), .s 100),
    (.xor (.xor (.s 96) (.or (.shl (.s 96) 3) (.shr (.s 96) 61))) (.or (.shl (.s 96) 25) (.shr (.s 96) 39)), .s 101),
    (.xor (.xor (.s 97) (.or (.shl (.s 97) 63) (.shr (.s 97) 1))) (.or (.shl (.s 97) 58) (.shr (.s 97) 6)), .s 102),
    (.xor (.xor (.s 98) (.or (.shl (.s 98) 54) (.shr (.s 98) 10))) (.or (.shl (.s 98) 47) (.shr (.s 98) 17)), .s 103),
    (.xor (.xor (.s 99) (.or (.shl (.s 99) 57) (.shr (.s 99) 7))) (.or (.shl (.s 99) 23) (.shr (.s 99) 41)), .s 104)]
  | 10 => [(.xor (.xor (.s 104) (.s 103)) (.and (.not (.xor (.s 100) (.s 104))) (.s 101)), .s 109),
    (.xor (.xor (.s 101) (.and (.not (.xor (.xor (.s 102) (.s 101)) (.k 90))) (.s 103))) (.xor (.xor (.s 100) (.s 104)) (.and (.not (.s 101)) (.xor (.xor (.s 102) (.s 101)) (.k 90)))), .s 106),
    (.xor (.xor (.xor (.s 100) (.s 104)) (.and (.not (.s 101)) (.xor (.xor (.s 102) (.s 101)) (.k 90)))) (.s 109), .s 105),
    (.xor (.xor (.xor (.s 103) (.and (.not (.xor (.s 104) (.s 103))) (.xor (.s 100) (.s 104)))) (.xor (.xor (.s 102) (.s 101)) (.and (.not (.s 103)) (.xor (.s 104) (.s 103))))) (.k 90), .s 108),
    (.not (.xor (.xor (.xor (.s 102) (.s 101)) (.and (.not (.s 103)) (.xor (.s 104) (.s 103)))) (.k 90)), .s 107),
    (.xor (.xor (.s 105) (.or (.shl (.s 105) 45) (.shr (.s 105) 19))) (.or (.shl (.s 105) 36) (.shr (.s 105) 28)), .s 110),
    (.xor (.xor (.s 106) (.or (.shl (.s 106) 3) (.shr (.s 106) 61))) (.or (.shl (.s 106) 25) (.shr (.s 106) 39)), .s 111),
    (.xor (.xor (.s 107) (.or (.shl (.s 107) 63) (.shr (.s 107) 1))) (.or (.shl (.s 107) 58) (.shr (.s 107) 6)), .s 112),
    (.xor (.xor (.s 108) (.or (.shl (.s 108) 54) (.shr (.s 108) 10))) (.or (.shl (.s 108) 47) (.shr (.s 108) 17)), .s 113),
    (.xor (.xor (.s 109) (.or (.shl (.s 109) 57) (.shr (.s 109) 7))) (.or (.shl (.s 109) 23) (.shr (.s 109) 41)), .s 114)]
  | 11 => [(.xor (.xor (.s 114) (.s 113)) (.and (.not (.xor (.s 110) (.s 114))) (.s 111)), .s 119),
    (.xor (.xor (.s 111) (.and (.not (.xor (.xor (.s 112) (.s 111)) (.k 75))) (.s 113))) (.xor (.xor (.s 110) (.s 114)) (.and (.not (.s 111)) (.xor (.xor (.s 112) (.s 111)) (.k 75)))), .s 116),
    (.xor (.xor (.xor (.s 110) (.s 114)) (.and (.not (.s 111)) (.xor (.xor (.s 112) (.s 111)) (.k 75)))) (.s 119), .s 115),
    (.xor (.xor (.xor (.s 113) (.and (.not (.xor (.s 114) (.s 113))) (.xor (.s 110) (.s 114)))) (.xor (.xor (.s 112) (.s 111)) (.and (.not (.s 113)) (.xor (.s 114) (.s 113))))) (.k 75), .s 118),
    (.not (.xor (.xor (.xor (.s 112) (.s 111)) (.and (.not (.s 113)) (.xor (.s 114) (.s 113)))) (.k 75)), .s 117),
    (.xor (.xor (.s 115) (.or (.shl (.s 115) 45) (.shr (.s 115) 19))) (.or (.shl (.s 115) 36) (.shr (.s 115) 28)), .s 120),
    (.xor (.xor (.s 116) (.or (.shl (.s 116) 3) (.shr (.s 116) 61))) (.or (.shl (.s 116) 25) (.shr (.s 116) 39)), .s 121),
    (.xor (.xor (.s 117) (.or (.shl (.s 117) 63) (.shr (.s 117) 1))) (.or (.shl (.s 117) 58) (.shr (.s 117) 6)), .s 122),
    (.xor (.xor (.s 118) (.or (.shl (.s 118) 54) (.shr (.s 118) 10))) (.or (.shl (.s 118) 47) (.shr (.s 118) 17)), .s 123),
    (.xor (.xor (.s 119) (.or (.shl (.s 119) 57) (.shr (.s 119) 7))) (.or (.shl (.s 119) 23) (.shr (.s 119) 41)), .s 124)]
  | _ => []
theorem specL_eq0 : specL 0 = specR 0 0 := by kernel_rfl
theorem specL_eq1 : specL 1 = specR 10 1 := by kernel_rfl
theorem specL_eq2 : specL 2 = specR 20 2 := by kernel_rfl
theorem specL_eq3 : specL 3 = specR 30 3 := by kernel_rfl
theorem specL_eq4 : specL 4 = specR 40 4 := by kernel_rfl
theorem specL_eq5 : specL 5 = specR 50 5 := by kernel_rfl
theorem specL_eq6 : specL 6 = specR 60 6 := by kernel_rfl
theorem specL_eq7 : specL 7 = specR 70 7 := by kernel_rfl
theorem specL_eq8 : specL 8 = specR 80 8 := by kernel_rfl
theorem specL_eq9 : specL 9 = specR 90 9 := by kernel_rfl
theorem specL_eq10 : specL 10 = specR 100 10 := by kernel_rfl
theorem specL_eq11 : specL 11 = specR 110 11 := by kernel_rfl
theorem specL_eq : ∀ i, i < 12 → specL i = specR (10 * i) i
  | 0, _ => specL_eq0
  | 1, _ => specL_eq1
  | 2, _ => specL_eq2
  | 3, _ => specL_eq3
  | 4, _ => specL_eq4
  | 5, _ => specL_eq5
  | 6, _ => specL_eq6
  | 7, _ => specL_eq7
  | 8, _ => specL_eq8
  | 9, _ => specL_eq9
  | 10, _ => specL_eq10
  | 11, _ => specL_eq11
  | n + 12, h => absurd h (by omega)
end Go.Proofs.YtfilandehjmikaaDoor.Asc
