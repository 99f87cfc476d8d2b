/-
  The table of facts on this seat's types, printed by gen_tab.py; What is asked of types whose values are written down; A walk by symbolic states, layer 3: parts of memory that are hidden or put together; A walk by symbolic states, layer 3: bytes and texts. Conditions: none.
-/
import Derived.Test.YtppkiiomedembaaGreatDoorM01
import Derived.Test.YtppkiiomedembaaGreatDoorProg
import Derived.KernelRfl
import Derived.Laws.Tables
import Derived.Laws.BytesString
import Derived.Lib.Strings
set_option linter.unusedVariables false
set_option linter.unusedSimpArgs false
namespace Go.Proofs.YtppkiiomedembaaGreatDoor
open Go
theorem mixed : Tryz.prog.follows .mixedOrders = true := by kernel_rfl
instance : FldOff Tryz.prog 25 0 0 := ⟨by kernel_rfl⟩
instance : FldOff Tryz.prog 25 1 1 := ⟨by kernel_rfl⟩
instance : FldOff Tryz.prog 25 2 2 := ⟨by kernel_rfl⟩
instance : FldOff Tryz.prog 25 3 3 := ⟨by kernel_rfl⟩
instance : FldOff Tryz.prog 25 4 4 := ⟨by kernel_rfl⟩
instance : FldOff Tryz.prog 25 5 5 := ⟨by kernel_rfl⟩
instance : FldOff Tryz.prog 25 6 6 := ⟨by kernel_rfl⟩
instance : FldOff Tryz.prog 25 7 7 := ⟨by kernel_rfl⟩
instance : FldOff Tryz.prog 25 8 8 := ⟨by kernel_rfl⟩
instance : FldOff Tryz.prog 25 9 9 := ⟨by kernel_rfl⟩
instance : FldOff Tryz.prog 34 0 0 := ⟨by kernel_rfl⟩
instance : FldOff Tryz.prog 34 1 1 := ⟨by kernel_rfl⟩
instance : FldOff Tryz.prog 34 2 2 := ⟨by kernel_rfl⟩
instance : FldOff Tryz.prog 37 0 0 := ⟨by kernel_rfl⟩
instance : FldOff Tryz.prog 37 1 1 := ⟨by kernel_rfl⟩
instance : FldOff Tryz.prog 37 2 2 := ⟨by kernel_rfl⟩
instance : FldOff Tryz.prog 37 3 3 := ⟨by kernel_rfl⟩
instance : FldOff Tryz.prog 37 4 4 := ⟨by kernel_rfl⟩
instance : FldOff Tryz.prog 37 5 5 := ⟨by kernel_rfl⟩
instance : FldOff Tryz.prog 37 6 8 := ⟨by kernel_rfl⟩
instance : FldOff Tryz.prog 37 7 11 := ⟨by kernel_rfl⟩
instance : FldOff Tryz.prog 37 8 14 := ⟨by kernel_rfl⟩
instance : FldOff Tryz.prog 37 9 17 := ⟨by kernel_rfl⟩
instance : FldOff Tryz.prog 37 10 18 := ⟨by kernel_rfl⟩
instance : FldOff Tryz.prog 37 11 19 := ⟨by kernel_rfl⟩
instance : FldOff Tryz.prog 39 0 0 := ⟨by kernel_rfl⟩
instance : FldOff Tryz.prog 39 1 1 := ⟨by kernel_rfl⟩
instance : FldOff Tryz.prog 39 2 2 := ⟨by kernel_rfl⟩
instance : FldOff Tryz.prog 39 3 3 := ⟨by kernel_rfl⟩
instance : FldOff Tryz.prog 39 4 23 := ⟨by kernel_rfl⟩
instance : FldOff Tryz.prog 44 0 0 := ⟨by kernel_rfl⟩
instance : FldOff Tryz.prog 44 1 1 := ⟨by kernel_rfl⟩
instance : FldOff Tryz.prog 44 2 2 := ⟨by kernel_rfl⟩
instance : FldOff Tryz.prog 44 3 3 := ⟨by kernel_rfl⟩
instance : FldOff Tryz.prog 44 4 4 := ⟨by kernel_rfl⟩
instance : FldOff Tryz.prog 44 5 5 := ⟨by kernel_rfl⟩
instance : FldOff Tryz.prog 50 0 0 := ⟨by kernel_rfl⟩
instance : FldOff Tryz.prog 55 0 0 := ⟨by kernel_rfl⟩
instance : FldOff Tryz.prog 55 1 1 := ⟨by kernel_rfl⟩
instance : FldOff Tryz.prog 58 0 0 := ⟨by kernel_rfl⟩
instance : FldOff Tryz.prog 58 1 1 := ⟨by kernel_rfl⟩
instance : FldOff Tryz.prog 58 2 2 := ⟨by kernel_rfl⟩
instance : FldOff Tryz.prog 58 3 3 := ⟨by kernel_rfl⟩
instance : FldOff Tryz.prog 58 4 5 := ⟨by kernel_rfl⟩
instance : FldOff Tryz.prog 58 5 7 := ⟨by kernel_rfl⟩
instance : FldOff Tryz.prog 58 6 9 := ⟨by kernel_rfl⟩
instance : FldOff Tryz.prog 58 7 11 := ⟨by kernel_rfl⟩
instance : FldOff Tryz.prog 58 8 12 := ⟨by kernel_rfl⟩
instance : FldOff Tryz.prog 58 9 13 := ⟨by kernel_rfl⟩
instance : FldOff Tryz.prog 58 10 14 := ⟨by kernel_rfl⟩
instance : FldOff Tryz.prog 58 11 15 := ⟨by kernel_rfl⟩
instance : FldOff Tryz.prog 58 12 16 := ⟨by kernel_rfl⟩
instance : FldOff Tryz.prog 58 13 17 := ⟨by kernel_rfl⟩
instance : FldOff Tryz.prog 71 0 0 := ⟨by kernel_rfl⟩
instance : FldOff Tryz.prog 71 1 1 := ⟨by kernel_rfl⟩
instance : FldOff Tryz.prog 71 2 2 := ⟨by kernel_rfl⟩
instance : FldOff Tryz.prog 71 3 3 := ⟨by kernel_rfl⟩
instance : FldOff Tryz.prog 71 4 4 := ⟨by kernel_rfl⟩
instance : FldOff Tryz.prog 71 5 5 := ⟨by kernel_rfl⟩
instance : FldOff Tryz.prog 71 6 6 := ⟨by kernel_rfl⟩
instance : FldOff Tryz.prog 71 7 7 := ⟨by kernel_rfl⟩
instance : FldOff Tryz.prog 71 8 8 := ⟨by kernel_rfl⟩
instance : FldOff Tryz.prog 71 9 9 := ⟨by kernel_rfl⟩
instance : FldOff Tryz.prog 71 10 10 := ⟨by kernel_rfl⟩
instance : FldOff Tryz.prog 74 0 0 := ⟨by kernel_rfl⟩
instance : FldOff Tryz.prog 74 1 1 := ⟨by kernel_rfl⟩
instance : FldOff Tryz.prog 74 2 2 := ⟨by kernel_rfl⟩
instance : FldOff Tryz.prog 74 3 3 := ⟨by kernel_rfl⟩
instance : FldOff Tryz.prog 74 4 4 := ⟨by kernel_rfl⟩
instance : FldOff Tryz.prog 74 5 5 := ⟨by kernel_rfl⟩
instance : FldOff Tryz.prog 74 6 6 := ⟨by kernel_rfl⟩
instance : FldOff Tryz.prog 74 7 7 := ⟨by kernel_rfl⟩
instance : FldOff Tryz.prog 74 8 8 := ⟨by kernel_rfl⟩
instance : FldOff Tryz.prog 74 9 10 := ⟨by kernel_rfl⟩
instance : FldOff Tryz.prog 74 10 12 := ⟨by kernel_rfl⟩
instance : FldOff Tryz.prog 74 11 14 := ⟨by kernel_rfl⟩
instance : FldOff Tryz.prog 74 12 16 := ⟨by kernel_rfl⟩
instance : FldOff Tryz.prog 74 13 17 := ⟨by kernel_rfl⟩
instance : FldOff Tryz.prog 74 14 18 := ⟨by kernel_rfl⟩
instance : FldOff Tryz.prog 74 15 19 := ⟨by kernel_rfl⟩
instance : FldOff Tryz.prog 74 16 20 := ⟨by kernel_rfl⟩
instance : FldOff Tryz.prog 74 17 21 := ⟨by kernel_rfl⟩
instance : FldOff Tryz.prog 74 18 22 := ⟨by kernel_rfl⟩
instance : FldOff Tryz.prog 77 0 0 := ⟨by kernel_rfl⟩
instance : FldOff Tryz.prog 77 1 1 := ⟨by kernel_rfl⟩
instance : FldOff Tryz.prog 80 0 0 := ⟨by kernel_rfl⟩
instance : FldOff Tryz.prog 80 1 1 := ⟨by kernel_rfl⟩
instance : FldOff Tryz.prog 80 2 2 := ⟨by kernel_rfl⟩
instance : FldOff Tryz.prog 108 0 0 := ⟨by kernel_rfl⟩
instance : FldOff Tryz.prog 108 1 1 := ⟨by kernel_rfl⟩
instance : FldOff Tryz.prog 116 0 0 := ⟨by kernel_rfl⟩
instance : FldOff Tryz.prog 116 1 1 := ⟨by kernel_rfl⟩
instance : FldOff Tryz.prog 116 2 2 := ⟨by kernel_rfl⟩
instance : FldOff Tryz.prog 135 0 0 := ⟨by kernel_rfl⟩
instance : FldOff Tryz.prog 146 0 0 := ⟨by kernel_rfl⟩
instance : FldOff Tryz.prog 146 1 1 := ⟨by kernel_rfl⟩
instance : FldOff Tryz.prog 146 2 2 := ⟨by kernel_rfl⟩
instance : FldOff Tryz.prog 174 0 0 := ⟨by kernel_rfl⟩
instance : FldOff Tryz.prog 174 1 1 := ⟨by kernel_rfl⟩
instance : FldOff Tryz.prog 174 2 2 := ⟨by kernel_rfl⟩
instance : FldOff Tryz.prog 174 3 3 := ⟨by kernel_rfl⟩
instance : FldOff Tryz.prog 174 4 4 := ⟨by kernel_rfl⟩
instance : FldOff Tryz.prog 174 5 5 := ⟨by kernel_rfl⟩
instance : FldOff Tryz.prog 174 6 6 := ⟨by kernel_rfl⟩
instance : FldOff Tryz.prog 174 7 7 := ⟨by kernel_rfl⟩
instance : FldOff Tryz.prog 174 8 8 := ⟨by kernel_rfl⟩
instance : FldOff Tryz.prog 174 9 9 := ⟨by kernel_rfl⟩
instance : FldOff Tryz.prog 174 10 10 := ⟨by kernel_rfl⟩
instance : FldOff Tryz.prog 174 11 11 := ⟨by kernel_rfl⟩
instance : FldOff Tryz.prog 178 0 0 := ⟨by kernel_rfl⟩
instance : FldOff Tryz.prog 178 1 1 := ⟨by kernel_rfl⟩
instance : FldOff Tryz.prog 178 2 2 := ⟨by kernel_rfl⟩
instance : FldOff Tryz.prog 181 0 0 := ⟨by kernel_rfl⟩
instance : FldOff Tryz.prog 181 1 1 := ⟨by kernel_rfl⟩
instance : FldOff Tryz.prog 181 2 2 := ⟨by kernel_rfl⟩
instance : FldOff Tryz.prog 181 3 3 := ⟨by kernel_rfl⟩
instance : FldOff Tryz.prog 181 4 4 := ⟨by kernel_rfl⟩
instance : FldOff Tryz.prog 181 5 5 := ⟨by kernel_rfl⟩
instance : FldOff Tryz.prog 181 6 8 := ⟨by kernel_rfl⟩
instance : FldOff Tryz.prog 181 7 11 := ⟨by kernel_rfl⟩
instance : FldOff Tryz.prog 181 8 14 := ⟨by kernel_rfl⟩
instance : FldOff Tryz.prog 181 9 17 := ⟨by kernel_rfl⟩
instance : FldOff Tryz.prog 181 10 18 := ⟨by kernel_rfl⟩
instance : FldOff Tryz.prog 181 11 19 := ⟨by kernel_rfl⟩
instance : FldOff Tryz.prog 187 0 0 := ⟨by kernel_rfl⟩
instance : FldOff Tryz.prog 187 1 1 := ⟨by kernel_rfl⟩
instance : FldOff Tryz.prog 187 2 2 := ⟨by kernel_rfl⟩
instance : FldOff Tryz.prog 187 3 3 := ⟨by kernel_rfl⟩
instance : FldOff Tryz.prog 187 4 4 := ⟨by kernel_rfl⟩
instance : FldOff Tryz.prog 187 5 5 := ⟨by kernel_rfl⟩
instance : FldOff Tryz.prog 187 6 6 := ⟨by kernel_rfl⟩
instance : FldOff Tryz.prog 187 7 7 := ⟨by kernel_rfl⟩
instance : FldOff Tryz.prog 187 8 8 := ⟨by kernel_rfl⟩
instance : FldOff Tryz.prog 187 9 9 := ⟨by kernel_rfl⟩
instance : FldOff Tryz.prog 187 10 10 := ⟨by kernel_rfl⟩
instance : FldOff Tryz.prog 187 11 11 := ⟨by kernel_rfl⟩
instance : FldOff Tryz.prog 187 12 12 := ⟨by kernel_rfl⟩
instance : FldOff Tryz.prog 187 13 13 := ⟨by kernel_rfl⟩
instance : FldOff Tryz.prog 187 14 14 := ⟨by kernel_rfl⟩
instance : FldOff Tryz.prog 187 15 15 := ⟨by kernel_rfl⟩
instance : FldOff Tryz.prog 187 16 16 := ⟨by kernel_rfl⟩
instance : FldOff Tryz.prog 187 17 17 := ⟨by kernel_rfl⟩
instance : FldOff Tryz.prog 192 0 0 := ⟨by kernel_rfl⟩
instance : FldOff Tryz.prog 192 1 1 := ⟨by kernel_rfl⟩
instance : FldOff Tryz.prog 209 0 0 := ⟨by kernel_rfl⟩
instance : FldOff Tryz.prog 215 0 0 := ⟨by kernel_rfl⟩
instance : FldOff Tryz.prog 215 1 1 := ⟨by kernel_rfl⟩
instance : FldOff Tryz.prog 215 2 2 := ⟨by kernel_rfl⟩
instance : FldOff Tryz.prog 215 3 3 := ⟨by kernel_rfl⟩
instance : FldOff Tryz.prog 215 4 4 := ⟨by kernel_rfl⟩
instance : FldOff Tryz.prog 215 5 5 := ⟨by kernel_rfl⟩
instance : FldOff Tryz.prog 215 6 6 := ⟨by kernel_rfl⟩
instance : FldOff Tryz.prog 215 7 7 := ⟨by kernel_rfl⟩
instance : FldOff Tryz.prog 215 8 8 := ⟨by kernel_rfl⟩
instance : FldOff Tryz.prog 215 9 9 := ⟨by kernel_rfl⟩
instance : FldOff Tryz.prog 215 10 10 := ⟨by kernel_rfl⟩
instance : FldOff Tryz.prog 215 11 11 := ⟨by kernel_rfl⟩
instance : FldOff Tryz.prog 231 0 0 := ⟨by kernel_rfl⟩
instance : FldOff Tryz.prog 231 1 1 := ⟨by kernel_rfl⟩
instance : FldOff Tryz.prog 231 2 2 := ⟨by kernel_rfl⟩
instance : FldOff Tryz.prog 231 3 3 := ⟨by kernel_rfl⟩
instance : FldOff Tryz.prog 231 4 4 := ⟨by kernel_rfl⟩
instance : FldOff Tryz.prog 231 5 5 := ⟨by kernel_rfl⟩
instance : FldOff Tryz.prog 231 6 6 := ⟨by kernel_rfl⟩
instance : FldOff Tryz.prog 231 7 7 := ⟨by kernel_rfl⟩
instance : FldOff Tryz.prog 231 8 8 := ⟨by kernel_rfl⟩
instance : FldOff Tryz.prog 231 9 9 := ⟨by kernel_rfl⟩
instance : FldOff Tryz.prog 231 10 10 := ⟨by kernel_rfl⟩
instance : FldOff Tryz.prog 231 11 11 := ⟨by kernel_rfl⟩
instance : FldOff Tryz.prog 231 12 12 := ⟨by kernel_rfl⟩
instance : FldOff Tryz.prog 231 13 13 := ⟨by kernel_rfl⟩
instance : FldOff Tryz.prog 231 14 14 := ⟨by kernel_rfl⟩
instance : FldOff Tryz.prog 231 15 15 := ⟨by kernel_rfl⟩
instance : FldOff Tryz.prog 231 16 16 := ⟨by kernel_rfl⟩
instance : FldOff Tryz.prog 231 17 17 := ⟨by kernel_rfl⟩
instance : FldOff Tryz.prog 231 18 18 := ⟨by kernel_rfl⟩
instance : FldOff Tryz.prog 231 19 19 := ⟨by kernel_rfl⟩
instance : FldOff Tryz.prog 231 20 20 := ⟨by kernel_rfl⟩
instance : FldOff Tryz.prog 231 21 21 := ⟨by kernel_rfl⟩
instance : FldOff Tryz.prog 231 22 22 := ⟨by kernel_rfl⟩
instance : FldOff Tryz.prog 231 23 23 := ⟨by kernel_rfl⟩
instance : FldOff Tryz.prog 231 24 24 := ⟨by kernel_rfl⟩
instance : FldOff Tryz.prog 231 25 25 := ⟨by kernel_rfl⟩
instance : FldOff Tryz.prog 231 26 26 := ⟨by kernel_rfl⟩
instance : FldOff Tryz.prog 231 27 27 := ⟨by kernel_rfl⟩
instance : FldOff Tryz.prog 231 28 28 := ⟨by kernel_rfl⟩
instance : FldOff Tryz.prog 231 29 29 := ⟨by kernel_rfl⟩
instance : FldOff Tryz.prog 231 30 30 := ⟨by kernel_rfl⟩
instance : FldOff Tryz.prog 231 31 31 := ⟨by kernel_rfl⟩
instance : FldOff Tryz.prog 231 32 47 := ⟨by kernel_rfl⟩
instance : FldOff Tryz.prog 231 33 63 := ⟨by kernel_rfl⟩
instance : FldOff Tryz.prog 231 34 127 := ⟨by kernel_rfl⟩
instance : FldOff Tryz.prog 231 35 128 := ⟨by kernel_rfl⟩
instance : FldOff Tryz.prog 231 36 129 := ⟨by kernel_rfl⟩
instance : FldOff Tryz.prog 231 37 130 := ⟨by kernel_rfl⟩
instance : FldOff Tryz.prog 231 38 131 := ⟨by kernel_rfl⟩
instance : FldOff Tryz.prog 231 39 147 := ⟨by kernel_rfl⟩
instance : FldOff Tryz.prog 231 40 148 := ⟨by kernel_rfl⟩
instance : FldOff Tryz.prog 231 41 149 := ⟨by kernel_rfl⟩
instance : FldOff Tryz.prog 231 42 150 := ⟨by kernel_rfl⟩
instance : FldOff Tryz.prog 231 43 154 := ⟨by kernel_rfl⟩
instance : FldOff Tryz.prog 231 44 155 := ⟨by kernel_rfl⟩
instance : FldOff Tryz.prog 231 45 156 := ⟨by kernel_rfl⟩
instance : FldOff Tryz.prog 231 46 157 := ⟨by kernel_rfl⟩
instance : FldOff Tryz.prog 231 47 158 := ⟨by kernel_rfl⟩
instance : FldOff Tryz.prog 231 48 159 := ⟨by kernel_rfl⟩
instance : FldOff Tryz.prog 231 49 160 := ⟨by kernel_rfl⟩
instance : FldOff Tryz.prog 231 50 177 := ⟨by kernel_rfl⟩
instance : FldOff Tryz.prog 231 51 178 := ⟨by kernel_rfl⟩
instance : FldOff Tryz.prog 231 52 179 := ⟨by kernel_rfl⟩
instance : FldOff Tryz.prog 231 53 180 := ⟨by kernel_rfl⟩
instance : FldOff Tryz.prog 231 54 181 := ⟨by kernel_rfl⟩
instance : FldOff Tryz.prog 231 55 182 := ⟨by kernel_rfl⟩
instance : FldOff Tryz.prog 231 56 183 := ⟨by kernel_rfl⟩
instance : FldOff Tryz.prog 231 57 184 := ⟨by kernel_rfl⟩
instance : FldOff Tryz.prog 231 58 185 := ⟨by kernel_rfl⟩
instance : FldOff Tryz.prog 231 59 186 := ⟨by kernel_rfl⟩
instance : FldOff Tryz.prog 231 60 187 := ⟨by kernel_rfl⟩
instance : FldOff Tryz.prog 231 61 188 := ⟨by kernel_rfl⟩
instance : FldOff Tryz.prog 231 62 189 := ⟨by kernel_rfl⟩
instance : FldOff Tryz.prog 231 63 190 := ⟨by kernel_rfl⟩
instance : FldOff Tryz.prog 231 64 191 := ⟨by kernel_rfl⟩
instance : FldOff Tryz.prog 231 65 192 := ⟨by kernel_rfl⟩
instance : FldOff Tryz.prog 231 66 193 := ⟨by kernel_rfl⟩
instance : FldOff Tryz.prog 231 67 194 := ⟨by kernel_rfl⟩
instance : FldOff Tryz.prog 231 68 195 := ⟨by kernel_rfl⟩
instance : FldOff Tryz.prog 231 69 196 := ⟨by kernel_rfl⟩
instance : FldOff Tryz.prog 231 70 197 := ⟨by kernel_rfl⟩
instance : FldOff Tryz.prog 231 71 198 := ⟨by kernel_rfl⟩
instance : FldOff Tryz.prog 231 72 199 := ⟨by kernel_rfl⟩
instance : FldOff Tryz.prog 231 73 231 := ⟨by kernel_rfl⟩
instance : FldOff Tryz.prog 231 74 232 := ⟨by kernel_rfl⟩
instance : FldOff Tryz.prog 231 75 233 := ⟨by kernel_rfl⟩
instance : FldOff Tryz.prog 231 76 234 := ⟨by kernel_rfl⟩
instance : FldOff Tryz.prog 231 77 235 := ⟨by kernel_rfl⟩
instance : FldOff Tryz.prog 231 78 236 := ⟨by kernel_rfl⟩
instance : FldOff Tryz.prog 231 79 268 := ⟨by kernel_rfl⟩
instance : FldOff Tryz.prog 231 80 332 := ⟨by kernel_rfl⟩
instance : FldOff Tryz.prog 231 81 333 := ⟨by kernel_rfl⟩
instance : FldOff Tryz.prog 231 82 334 := ⟨by kernel_rfl⟩
instance : FldOff Tryz.prog 231 83 335 := ⟨by kernel_rfl⟩
instance : FldOff Tryz.prog 231 84 337 := ⟨by kernel_rfl⟩
instance : FldOff Tryz.prog 231 85 341 := ⟨by kernel_rfl⟩
instance : FldOff Tryz.prog 231 86 357 := ⟨by kernel_rfl⟩
instance : FldOff Tryz.prog 231 87 358 := ⟨by kernel_rfl⟩
instance : FldOff Tryz.prog 231 88 359 := ⟨by kernel_rfl⟩
instance : FldOff Tryz.prog 231 89 360 := ⟨by kernel_rfl⟩
instance : FldOff Tryz.prog 231 90 361 := ⟨by kernel_rfl⟩
instance : FldOff Tryz.prog 231 91 362 := ⟨by kernel_rfl⟩
instance : FldOff Tryz.prog 231 92 363 := ⟨by kernel_rfl⟩
instance : FldOff Tryz.prog 231 93 364 := ⟨by kernel_rfl⟩
instance : FldOff Tryz.prog 231 94 365 := ⟨by kernel_rfl⟩
instance : FldOff Tryz.prog 231 95 366 := ⟨by kernel_rfl⟩
instance : FldOff Tryz.prog 231 96 368 := ⟨by kernel_rfl⟩
instance : FldOff Tryz.prog 231 97 464 := ⟨by kernel_rfl⟩
instance : FldOff Tryz.prog 245 0 0 := ⟨by kernel_rfl⟩
instance : FldOff Tryz.prog 245 1 1 := ⟨by kernel_rfl⟩
instance : FldOff Tryz.prog 245 2 2 := ⟨by kernel_rfl⟩
instance : FldOff Tryz.prog 245 3 3 := ⟨by kernel_rfl⟩
instance : FldOff Tryz.prog 245 4 4 := ⟨by kernel_rfl⟩
instance : FldOff Tryz.prog 245 5 5 := ⟨by kernel_rfl⟩
instance : FldOff Tryz.prog 245 6 6 := ⟨by kernel_rfl⟩
instance : FldOff Tryz.prog 245 7 7 := ⟨by kernel_rfl⟩
instance : FldOff Tryz.prog 250 0 0 := ⟨by kernel_rfl⟩
instance : FldOff Tryz.prog 250 1 1 := ⟨by kernel_rfl⟩
instance : FldOff Tryz.prog 250 2 2 := ⟨by kernel_rfl⟩
instance : FldOff Tryz.prog 250 3 3 := ⟨by kernel_rfl⟩
instance : FldOff Tryz.prog 250 4 4 := ⟨by kernel_rfl⟩
instance : FldOff Tryz.prog 267 0 0 := ⟨by kernel_rfl⟩
instance : FldOff Tryz.prog 267 1 1 := ⟨by kernel_rfl⟩
instance : FldOff Tryz.prog 267 2 2 := ⟨by kernel_rfl⟩
instance : FldOff Tryz.prog 267 3 3 := ⟨by kernel_rfl⟩
instance : FldOff Tryz.prog 275 0 0 := ⟨by kernel_rfl⟩
instance : FldOff Tryz.prog 275 1 1 := ⟨by kernel_rfl⟩
instance : FldOff Tryz.prog 275 2 2 := ⟨by kernel_rfl⟩
instance : FldOff Tryz.prog 279 0 0 := ⟨by kernel_rfl⟩
instance : FldOff Tryz.prog 279 1 1 := ⟨by kernel_rfl⟩
instance : FldOff Tryz.prog 279 2 2 := ⟨by kernel_rfl⟩
instance : FldOff Tryz.prog 288 0 0 := ⟨by kernel_rfl⟩
instance : FldOff Tryz.prog 288 1 1 := ⟨by kernel_rfl⟩
instance : FldOff Tryz.prog 288 2 2 := ⟨by kernel_rfl⟩
instance : FldOff Tryz.prog 288 3 3 := ⟨by kernel_rfl⟩
instance : FldOff Tryz.prog 288 4 4 := ⟨by kernel_rfl⟩
instance : FldOff Tryz.prog 288 5 5 := ⟨by kernel_rfl⟩
instance : FldOff Tryz.prog 288 6 6 := ⟨by kernel_rfl⟩
instance : FldOff Tryz.prog 288 7 7 := ⟨by kernel_rfl⟩
instance : FldOff Tryz.prog 288 8 8 := ⟨by kernel_rfl⟩
instance : FldOff Tryz.prog 288 9 9 := ⟨by kernel_rfl⟩
instance : FldOff Tryz.prog 288 10 10 := ⟨by kernel_rfl⟩
instance : FldOff Tryz.prog 288 11 11 := ⟨by kernel_rfl⟩
instance : FldOff Tryz.prog 288 12 12 := ⟨by kernel_rfl⟩
instance : FldOff Tryz.prog 288 13 72 := ⟨by kernel_rfl⟩
instance : FldOff Tryz.prog 288 14 73 := ⟨by kernel_rfl⟩
instance : FldOff Tryz.prog 288 15 74 := ⟨by kernel_rfl⟩
instance : FldOff Tryz.prog 288 16 75 := ⟨by kernel_rfl⟩
instance : FldOff Tryz.prog 288 17 76 := ⟨by kernel_rfl⟩
instance : FldOff Tryz.prog 288 18 77 := ⟨by kernel_rfl⟩
instance : FldOff Tryz.prog 288 19 78 := ⟨by kernel_rfl⟩
instance : FldOff Tryz.prog 288 20 79 := ⟨by kernel_rfl⟩
instance : FldOff Tryz.prog 288 21 80 := ⟨by kernel_rfl⟩
instance : FldOff Tryz.prog 288 22 81 := ⟨by kernel_rfl⟩
instance : FldOff Tryz.prog 288 23 82 := ⟨by kernel_rfl⟩
instance : FldOff Tryz.prog 288 24 83 := ⟨by kernel_rfl⟩
instance : FldOff Tryz.prog 288 25 84 := ⟨by kernel_rfl⟩
instance : FldOff Tryz.prog 288 26 85 := ⟨by kernel_rfl⟩
instance : FldOff Tryz.prog 288 27 86 := ⟨by kernel_rfl⟩
instance : FldOff Tryz.prog 288 28 87 := ⟨by kernel_rfl⟩
instance : FldOff Tryz.prog 288 29 88 := ⟨by kernel_rfl⟩
instance : FldOff Tryz.prog 288 30 89 := ⟨by kernel_rfl⟩
instance : FldOff Tryz.prog 288 31 90 := ⟨by kernel_rfl⟩
instance : FldOff Tryz.prog 304 0 0 := ⟨by kernel_rfl⟩
instance : FldOff Tryz.prog 304 1 1 := ⟨by kernel_rfl⟩
instance : FldOff Tryz.prog 304 2 2 := ⟨by kernel_rfl⟩
instance : FldOff Tryz.prog 304 3 3 := ⟨by kernel_rfl⟩
instance : FldOff Tryz.prog 304 4 4 := ⟨by kernel_rfl⟩
instance : FldOff Tryz.prog 306 0 0 := ⟨by kernel_rfl⟩
instance : FldOff Tryz.prog 306 1 1 := ⟨by kernel_rfl⟩
instance : FldOff Tryz.prog 306 2 2 := ⟨by kernel_rfl⟩
instance : FldOff Tryz.prog 306 3 3 := ⟨by kernel_rfl⟩
instance : FldOff Tryz.prog 308 0 0 := ⟨by kernel_rfl⟩
instance : FldOff Tryz.prog 308 1 5 := ⟨by kernel_rfl⟩
instance : FldOff Tryz.prog 313 0 0 := ⟨by kernel_rfl⟩
instance : FldOff Tryz.prog 313 1 1 := ⟨by kernel_rfl⟩
instance : FldOff Tryz.prog 313 2 2 := ⟨by kernel_rfl⟩
instance : FldOff Tryz.prog 313 3 3 := ⟨by kernel_rfl⟩
instance : FldOff Tryz.prog 315 0 0 := ⟨by kernel_rfl⟩
instance : FldOff Tryz.prog 315 1 5 := ⟨by kernel_rfl⟩
instance : FldOff Tryz.prog 317 0 0 := ⟨by kernel_rfl⟩
instance : FldOff Tryz.prog 317 1 5 := ⟨by kernel_rfl⟩
instance : FldOff Tryz.prog 320 0 0 := ⟨by kernel_rfl⟩
instance : FldOff Tryz.prog 320 1 1 := ⟨by kernel_rfl⟩
instance : FldOff Tryz.prog 326 0 0 := ⟨by kernel_rfl⟩
instance : FldOff Tryz.prog 326 1 1 := ⟨by kernel_rfl⟩
instance : FldOff Tryz.prog 326 2 2 := ⟨by kernel_rfl⟩
instance : FldOff Tryz.prog 326 3 3 := ⟨by kernel_rfl⟩
instance : OneCell Tryz.prog 2 := ⟨by kernel_rfl⟩
instance : OneCell Tryz.prog 3 := ⟨by kernel_rfl⟩
instance : OneCell Tryz.prog 4 := ⟨by kernel_rfl⟩
instance : OneCell Tryz.prog 5 := ⟨by kernel_rfl⟩
instance : OneCell Tryz.prog 9 := ⟨by kernel_rfl⟩
instance : OneCell Tryz.prog 22 := ⟨by kernel_rfl⟩
instance : OneCell Tryz.prog 23 := ⟨by kernel_rfl⟩
instance : OneCell Tryz.prog 31 := ⟨by kernel_rfl⟩
instance : OneCell Tryz.prog 32 := ⟨by kernel_rfl⟩
instance : OneCell Tryz.prog 35 := ⟨by kernel_rfl⟩
instance : OneCell Tryz.prog 41 := ⟨by kernel_rfl⟩
instance : OneCell Tryz.prog 42 := ⟨by kernel_rfl⟩
instance : OneCell Tryz.prog 48 := ⟨by kernel_rfl⟩
instance : OneCell Tryz.prog 56 := ⟨by kernel_rfl⟩
instance : OneCell Tryz.prog 68 := ⟨by kernel_rfl⟩
instance : OneCell Tryz.prog 69 := ⟨by kernel_rfl⟩
instance : OneCell Tryz.prog 72 := ⟨by kernel_rfl⟩
instance : OneCell Tryz.prog 87 := ⟨by kernel_rfl⟩
instance : OneCell Tryz.prog 89 := ⟨by kernel_rfl⟩
instance : OneCell Tryz.prog 93 := ⟨by kernel_rfl⟩
instance : OneCell Tryz.prog 106 := ⟨by kernel_rfl⟩
instance : OneCell Tryz.prog 110 := ⟨by kernel_rfl⟩
instance : OneCell Tryz.prog 113 := ⟨by kernel_rfl⟩
instance : OneCell Tryz.prog 125 := ⟨by kernel_rfl⟩
instance : OneCell Tryz.prog 133 := ⟨by kernel_rfl⟩
instance : OneCell Tryz.prog 137 := ⟨by kernel_rfl⟩
instance : OneCell Tryz.prog 171 := ⟨by kernel_rfl⟩
instance : OneCell Tryz.prog 172 := ⟨by kernel_rfl⟩
instance : OneCell Tryz.prog 179 := ⟨by kernel_rfl⟩
instance : OneCell Tryz.prog 182 := ⟨by kernel_rfl⟩
instance : OneCell Tryz.prog 183 := ⟨by kernel_rfl⟩
instance : OneCell Tryz.prog 185 := ⟨by kernel_rfl⟩
instance : OneCell Tryz.prog 213 := ⟨by kernel_rfl⟩
instance : OneCell Tryz.prog 218 := ⟨by kernel_rfl⟩
instance : OneCell Tryz.prog 219 := ⟨by kernel_rfl⟩
instance : OneCell Tryz.prog 220 := ⟨by kernel_rfl⟩
instance : OneCell Tryz.prog 243 := ⟨by kernel_rfl⟩
instance : OneCell Tryz.prog 265 := ⟨by kernel_rfl⟩
instance : OneCell Tryz.prog 271 := ⟨by kernel_rfl⟩
instance : OneCell Tryz.prog 324 := ⟨by kernel_rfl⟩
instance : AggSz Tryz.prog 25 10 := ⟨by kernel_rfl⟩
instance : AggSz Tryz.prog 34 3 := ⟨by kernel_rfl⟩
instance : AggSz Tryz.prog 37 20 := ⟨by kernel_rfl⟩
instance : AggSz Tryz.prog 39 24 := ⟨by kernel_rfl⟩
instance : AggSz Tryz.prog 44 6 := ⟨by kernel_rfl⟩
instance : AggSz Tryz.prog 50 1 := ⟨by kernel_rfl⟩
instance : AggSz Tryz.prog 55 2 := ⟨by kernel_rfl⟩
instance : AggSz Tryz.prog 58 18 := ⟨by kernel_rfl⟩
instance : AggSz Tryz.prog 71 11 := ⟨by kernel_rfl⟩
instance : AggSz Tryz.prog 74 23 := ⟨by kernel_rfl⟩
instance : AggSz Tryz.prog 77 2 := ⟨by kernel_rfl⟩
instance : AggSz Tryz.prog 80 3 := ⟨by kernel_rfl⟩
instance : AggSz Tryz.prog 108 2 := ⟨by kernel_rfl⟩
instance : AggSz Tryz.prog 116 22 := ⟨by kernel_rfl⟩
instance : AggSz Tryz.prog 135 1 := ⟨by kernel_rfl⟩
instance : AggSz Tryz.prog 146 3 := ⟨by kernel_rfl⟩
instance : AggSz Tryz.prog 174 12 := ⟨by kernel_rfl⟩
instance : AggSz Tryz.prog 178 3 := ⟨by kernel_rfl⟩
instance : AggSz Tryz.prog 181 20 := ⟨by kernel_rfl⟩
instance : AggSz Tryz.prog 187 18 := ⟨by kernel_rfl⟩
instance : AggSz Tryz.prog 192 2 := ⟨by kernel_rfl⟩
instance : AggSz Tryz.prog 209 1 := ⟨by kernel_rfl⟩
instance : AggSz Tryz.prog 215 12 := ⟨by kernel_rfl⟩
instance : AggSz Tryz.prog 221 16 := ⟨by kernel_rfl⟩
instance : AggSz Tryz.prog 222 64 := ⟨by kernel_rfl⟩
instance : AggSz Tryz.prog 223 4 := ⟨by kernel_rfl⟩
instance : AggSz Tryz.prog 224 17 := ⟨by kernel_rfl⟩
instance : AggSz Tryz.prog 225 32 := ⟨by kernel_rfl⟩
instance : AggSz Tryz.prog 226 2 := ⟨by kernel_rfl⟩
instance : AggSz Tryz.prog 227 4 := ⟨by kernel_rfl⟩
instance : AggSz Tryz.prog 228 2 := ⟨by kernel_rfl⟩
instance : AggSz Tryz.prog 229 96 := ⟨by kernel_rfl⟩
instance : AggSz Tryz.prog 231 465 := ⟨by kernel_rfl⟩
instance : AggSz Tryz.prog 245 8 := ⟨by kernel_rfl⟩
instance : AggSz Tryz.prog 250 5 := ⟨by kernel_rfl⟩
instance : AggSz Tryz.prog 275 3 := ⟨by kernel_rfl⟩
instance : AggSz Tryz.prog 279 3 := ⟨by kernel_rfl⟩
instance : AggSz Tryz.prog 286 60 := ⟨by kernel_rfl⟩
instance : AggSz Tryz.prog 288 91 := ⟨by kernel_rfl⟩
instance : AggSz Tryz.prog 289 3 := ⟨by kernel_rfl⟩
instance : AggSz Tryz.prog 304 5 := ⟨by kernel_rfl⟩
instance : AggSz Tryz.prog 306 4 := ⟨by kernel_rfl⟩
instance : AggSz Tryz.prog 307 16 := ⟨by kernel_rfl⟩
instance : AggSz Tryz.prog 313 4 := ⟨by kernel_rfl⟩
instance : AggSz Tryz.prog 314 16 := ⟨by kernel_rfl⟩
instance : AggSz Tryz.prog 316 1360 := ⟨by kernel_rfl⟩
instance : AggSz Tryz.prog 320 2 := ⟨by kernel_rfl⟩
instance : AggSz Tryz.prog 321 14 := ⟨by kernel_rfl⟩
instance : AggSz Tryz.prog 326 4 := ⟨by kernel_rfl⟩
instance : SlTy Tryz.prog 22 5 1 := ⟨by kernel_rfl⟩
instance : SlTy Tryz.prog 23 3 1 := ⟨by kernel_rfl⟩
instance : SlTy Tryz.prog 26 25 10 := ⟨by kernel_rfl⟩
instance : SlTy Tryz.prog 27 22 1 := ⟨by kernel_rfl⟩
instance : SlTy Tryz.prog 29 44 6 := ⟨by kernel_rfl⟩
instance : SlTy Tryz.prog 35 192 2 := ⟨by kernel_rfl⟩
instance : SlTy Tryz.prog 40 39 24 := ⟨by kernel_rfl⟩
instance : SlTy Tryz.prog 41 9 1 := ⟨by kernel_rfl⟩
instance : SlTy Tryz.prog 48 58 18 := ⟨by kernel_rfl⟩
instance : SlTy Tryz.prog 56 77 2 := ⟨by kernel_rfl⟩
instance : SlTy Tryz.prog 63 116 22 := ⟨by kernel_rfl⟩
instance : SlTy Tryz.prog 68 74 23 := ⟨by kernel_rfl⟩
instance : SlTy Tryz.prog 72 80 3 := ⟨by kernel_rfl⟩
instance : SlTy Tryz.prog 104 89 1 := ⟨by kernel_rfl⟩
instance : SlTy Tryz.prog 112 110 1 := ⟨by kernel_rfl⟩
instance : SlTy Tryz.prog 171 172 1 := ⟨by kernel_rfl⟩
instance : SlTy Tryz.prog 210 215 12 := ⟨by kernel_rfl⟩
instance : SlTy Tryz.prog 236 4 1 := ⟨by kernel_rfl⟩
instance : SlTy Tryz.prog 237 69 1 := ⟨by kernel_rfl⟩
instance : SlTy Tryz.prog 265 275 3 := ⟨by kernel_rfl⟩
instance : SlTy Tryz.prog 297 55 2 := ⟨by kernel_rfl⟩
instance : SlTy Tryz.prog 311 306 4 := ⟨by kernel_rfl⟩
instance : IntTy Tryz.prog 2 .i64 := ⟨by kernel_rfl⟩
instance : IntTy Tryz.prog 3 .i64 := ⟨by kernel_rfl⟩
instance : IntTy Tryz.prog 5 .u8 := ⟨by kernel_rfl⟩
instance : IntTy Tryz.prog 21 .i32 := ⟨by kernel_rfl⟩
instance : IntTy Tryz.prog 31 .u16 := ⟨by kernel_rfl⟩
instance : IntTy Tryz.prog 32 .u32 := ⟨by kernel_rfl⟩
instance : IntTy Tryz.prog 69 .u64 := ⟨by kernel_rfl⟩
instance : IntTy Tryz.prog 182 .u32 := ⟨by kernel_rfl⟩
instance : ZeroOf Tryz.prog 3 [.int .i64 0] := ⟨by kernel_rfl⟩
instance : ZeroOf Tryz.prog 4 [.bool false] := ⟨by kernel_rfl⟩
instance : ZeroOf Tryz.prog 5 [.int .u8 0] := ⟨by kernel_rfl⟩
instance : ZeroOf Tryz.prog 9 [.string ⟨#[]⟩] := ⟨by kernel_rfl⟩
instance : ZeroOf Tryz.prog 22 [.slice none 0 0] := ⟨by kernel_rfl⟩
instance : ZeroOf Tryz.prog 25 [.int .i64 0, .string ⟨#[]⟩, .string ⟨#[]⟩, .int .i64 0, .int .i64 0, .int .i64 0, .slice none 0 0, .int .i64 0, .int .i64 0, .int .i64 0] := ⟨by kernel_rfl⟩
instance : ZeroOf Tryz.prog 39 [.int .i64 0, .string ⟨#[]⟩, .string ⟨#[]⟩, .string ⟨#[]⟩, .int .i64 0, .int .u16 0, .int .u32 0, .int .u32 0, .bool false, .int .i64 0, .int .i64 0, .bool false, .int .i64 0, .int .i64 0, .bool false, .int .i64 0, .int .i64 0, .bool false, .int .i64 0, .int .i64 0, .int .u32 0, .int .u32 0, .slice none 0 0, .slice none 0 0] := ⟨by kernel_rfl⟩
instance : ZeroOf Tryz.prog 41 [.slice none 0 0] := ⟨by kernel_rfl⟩
instance : ZeroOf Tryz.prog 44 [.int .i64 0, .int .i64 0, .int .i64 0, .slice none 0 0, .slice none 0 0, .slice none 0 0] := ⟨by kernel_rfl⟩
instance : ZeroOf Tryz.prog 50 [.slice none 0 0] := ⟨by kernel_rfl⟩
instance : ZeroOf Tryz.prog 55 [.int .i64 0, .int .i64 0] := ⟨by kernel_rfl⟩
instance : ZeroOf Tryz.prog 58 [.int .u16 0, .int .u32 0, .int .u32 0, .int .i64 0, .int .i64 0, .int .i64 0, .int .i64 0, .int .i64 0, .int .i64 0, .int .i64 0, .int .i64 0, .int .u32 0, .int .u32 0, .slice none 0 0, .string ⟨#[]⟩, .slice none 0 0, .slice none 0 0, .slice none 0 0] := ⟨by kernel_rfl⟩
instance : ZeroOf Tryz.prog 69 [.int .u64 0] := ⟨by kernel_rfl⟩
instance : ZeroOf Tryz.prog 74 [.int .u64 0, .int .u16 0, .int .u32 0, .int .u32 0, .int .u64 0, .int .u64 0, .int .u64 0, .int .u64 0, .int .i64 0, .int .i64 0, .int .i64 0, .int .i64 0, .int .i64 0, .int .i64 0, .int .i64 0, .int .i64 0, .int .u32 0, .int .u32 0, .slice none 0 0, .slice none 0 0, .slice none 0 0, .bool false, .int .u64 0] := ⟨by kernel_rfl⟩
instance : ZeroOf Tryz.prog 77 [.string ⟨#[]⟩, .slice none 0 0] := ⟨by kernel_rfl⟩
instance : ZeroOf Tryz.prog 80 [.string ⟨#[]⟩, .int .u64 0, .int .u64 0] := ⟨by kernel_rfl⟩
instance : ZeroOf Tryz.prog 89 [.pointer none] := ⟨by kernel_rfl⟩
instance : ZeroOf Tryz.prog 110 [.nilFunc] := ⟨by kernel_rfl⟩
instance : ZeroOf Tryz.prog 116 [.int .i64 0, .int .i64 0, .string ⟨#[]⟩, .int .i64 0, .int .u16 0, .int .u32 0, .int .u32 0, .bool false, .int .i64 0, .int .i64 0, .bool false, .int .i64 0, .int .i64 0, .bool false, .int .i64 0, .int .i64 0, .bool false, .int .i64 0, .int .i64 0, .int .u32 0, .int .u32 0, .slice none 0 0] := ⟨by kernel_rfl⟩
instance : ZeroOf Tryz.prog 125 [.nilFunc] := ⟨by kernel_rfl⟩
instance : ZeroOf Tryz.prog 172 [.pointer none] := ⟨by kernel_rfl⟩
instance : ZeroOf Tryz.prog 178 [.bool false, .int .i64 0, .int .i64 0] := ⟨by kernel_rfl⟩
instance : ZeroOf Tryz.prog 192 [.string ⟨#[]⟩, .slice none 0 0] := ⟨by kernel_rfl⟩
instance : ZeroOf Tryz.prog 215 [.int .u32 0, .int .u32 0, .int .u32 0, .int .u16 0, .int .u16 0, .int .u16 0, .int .u16 0, .int .u32 0, .int .u16 0, .int .u16 0, .int .u16 0, .int .u16 0] := ⟨by kernel_rfl⟩
instance : ZeroOf Tryz.prog 227 [.int .u8 0, .int .u8 0, .int .u8 0, .int .u8 0] := ⟨by kernel_rfl⟩
instance : ZeroOf Tryz.prog 267 [.slice none 0 0, .slice none 0 0, .int .i64 0, .int .i64 0] := ⟨by kernel_rfl⟩
instance : ZeroOf Tryz.prog 275 [.string ⟨#[]⟩, .int .u8 0, .slice none 0 0] := ⟨by kernel_rfl⟩
instance : ZeroOf Tryz.prog 279 [.string ⟨#[]⟩, .slice none 0 0, .int .i64 0] := ⟨by kernel_rfl⟩
instance : ZeroOf Tryz.prog 289 [.string ⟨#[]⟩, .int .u8 0, .slice none 0 0] := ⟨by kernel_rfl⟩
instance : ZeroOf Tryz.prog 306 [.int .u32 0, .int .u16 0, .int .u16 0, .int .u32 0] := ⟨by kernel_rfl⟩
instance : ZeroOf Tryz.prog 308 [.int .u16 0, .int .u16 0, .int .u16 0, .int .u16 0, .int .u32 0, .int .u32 0, .int .u16 0, .int .u16 0, .int .u32 0, .int .u32 0, .int .u16 0, .int .u16 0, .int .u32 0, .int .u32 0, .int .u16 0, .int .u16 0, .int .u32 0, .int .u32 0, .int .u16 0, .int .u16 0, .int .u32 0] := ⟨by kernel_rfl⟩
instance : ZeroOf Tryz.prog 313 [.int .u32 0, .int .u32 0, .int .u16 0, .int .u16 0] := ⟨by kernel_rfl⟩
instance : ZeroOf Tryz.prog 315 [.int .u16 0, .int .u16 0, .int .u16 0, .int .u16 0, .int .u32 0, .int .u32 0, .int .u32 0, .int .u16 0, .int .u16 0, .int .u32 0, .int .u32 0, .int .u16 0, .int .u16 0, .int .u32 0, .int .u32 0, .int .u16 0, .int .u16 0, .int .u32 0, .int .u32 0, .int .u16 0, .int .u16 0] := ⟨by kernel_rfl⟩
instance : ZeroOf Tryz.prog 320 [.int .u8 0, .string ⟨#[]⟩] := ⟨by kernel_rfl⟩
instance : ZeroOf Tryz.prog 326 [.int .u32 0, .int .u16 0, .int .u8 0, .int .u8 0] := ⟨by kernel_rfl⟩
instance : SlE Tryz.prog 22 5 1 1 [.int .u8 0] := ⟨by kernel_rfl, by kernel_rfl⟩
instance : SlE Tryz.prog 23 3 1 8 [.int .i64 0] := ⟨by kernel_rfl, by kernel_rfl⟩
instance : SlE Tryz.prog 26 25 10 112 [.int .i64 0, .string ⟨#[]⟩, .string ⟨#[]⟩, .int .i64 0, .int .i64 0, .int .i64 0, .slice none 0 0, .int .i64 0, .int .i64 0, .int .i64 0] := ⟨by kernel_rfl, by kernel_rfl⟩
instance : SlE Tryz.prog 27 22 1 24 [.slice none 0 0] := ⟨by kernel_rfl, by kernel_rfl⟩
instance : SlE Tryz.prog 29 44 6 96 [.int .i64 0, .int .i64 0, .int .i64 0, .slice none 0 0, .slice none 0 0, .slice none 0 0] := ⟨by kernel_rfl, by kernel_rfl⟩
instance : SlE Tryz.prog 35 192 2 40 [.string ⟨#[]⟩, .slice none 0 0] := ⟨by kernel_rfl, by kernel_rfl⟩
instance : SlE Tryz.prog 40 39 24 232 [.int .i64 0, .string ⟨#[]⟩, .string ⟨#[]⟩, .string ⟨#[]⟩, .int .i64 0, .int .u16 0, .int .u32 0, .int .u32 0, .bool false, .int .i64 0, .int .i64 0, .bool false, .int .i64 0, .int .i64 0, .bool false, .int .i64 0, .int .i64 0, .bool false, .int .i64 0, .int .i64 0, .int .u32 0, .int .u32 0, .slice none 0 0, .slice none 0 0] := ⟨by kernel_rfl, by kernel_rfl⟩
instance : SlE Tryz.prog 41 9 1 16 [.string ⟨#[]⟩] := ⟨by kernel_rfl, by kernel_rfl⟩
instance : SlE Tryz.prog 48 58 18 200 [.int .u16 0, .int .u32 0, .int .u32 0, .int .i64 0, .int .i64 0, .int .i64 0, .int .i64 0, .int .i64 0, .int .i64 0, .int .i64 0, .int .i64 0, .int .u32 0, .int .u32 0, .slice none 0 0, .string ⟨#[]⟩, .slice none 0 0, .slice none 0 0, .slice none 0 0] := ⟨by kernel_rfl, by kernel_rfl⟩
instance : SlE Tryz.prog 56 77 2 40 [.string ⟨#[]⟩, .slice none 0 0] := ⟨by kernel_rfl, by kernel_rfl⟩
instance : SlE Tryz.prog 63 116 22 184 [.int .i64 0, .int .i64 0, .string ⟨#[]⟩, .int .i64 0, .int .u16 0, .int .u32 0, .int .u32 0, .bool false, .int .i64 0, .int .i64 0, .bool false, .int .i64 0, .int .i64 0, .bool false, .int .i64 0, .int .i64 0, .bool false, .int .i64 0, .int .i64 0, .int .u32 0, .int .u32 0, .slice none 0 0] := ⟨by kernel_rfl, by kernel_rfl⟩
instance : SlE Tryz.prog 68 74 23 216 [.int .u64 0, .int .u16 0, .int .u32 0, .int .u32 0, .int .u64 0, .int .u64 0, .int .u64 0, .int .u64 0, .int .i64 0, .int .i64 0, .int .i64 0, .int .i64 0, .int .i64 0, .int .i64 0, .int .i64 0, .int .i64 0, .int .u32 0, .int .u32 0, .slice none 0 0, .slice none 0 0, .slice none 0 0, .bool false, .int .u64 0] := ⟨by kernel_rfl, by kernel_rfl⟩
instance : SlE Tryz.prog 72 80 3 32 [.string ⟨#[]⟩, .int .u64 0, .int .u64 0] := ⟨by kernel_rfl, by kernel_rfl⟩
instance : SlE Tryz.prog 104 89 1 8 [.pointer none] := ⟨by kernel_rfl, by kernel_rfl⟩
instance : SlE Tryz.prog 112 110 1 8 [.nilFunc] := ⟨by kernel_rfl, by kernel_rfl⟩
instance : SlE Tryz.prog 171 172 1 8 [.pointer none] := ⟨by kernel_rfl, by kernel_rfl⟩
instance : SlE Tryz.prog 210 215 12 32 [.int .u32 0, .int .u32 0, .int .u32 0, .int .u16 0, .int .u16 0, .int .u16 0, .int .u16 0, .int .u32 0, .int .u16 0, .int .u16 0, .int .u16 0, .int .u16 0] := ⟨by kernel_rfl, by kernel_rfl⟩
instance : SlE Tryz.prog 236 4 1 1 [.bool false] := ⟨by kernel_rfl, by kernel_rfl⟩
instance : SlE Tryz.prog 237 69 1 8 [.int .u64 0] := ⟨by kernel_rfl, by kernel_rfl⟩
instance : SlE Tryz.prog 265 275 3 48 [.string ⟨#[]⟩, .int .u8 0, .slice none 0 0] := ⟨by kernel_rfl, by kernel_rfl⟩
instance : SlE Tryz.prog 297 55 2 16 [.int .i64 0, .int .i64 0] := ⟨by kernel_rfl, by kernel_rfl⟩
instance : SlE Tryz.prog 311 306 4 12 [.int .u32 0, .int .u16 0, .int .u16 0, .int .u32 0] := ⟨by kernel_rfl, by kernel_rfl⟩
instance : ArrTy Tryz.prog 196 4096 5 1 := ⟨by kernel_rfl, by kernel_rfl⟩
instance : ArrTy Tryz.prog 211 8192 5 1 := ⟨by kernel_rfl, by kernel_rfl⟩
instance : ArrTy Tryz.prog 221 16 5 1 := ⟨by kernel_rfl, by kernel_rfl⟩
instance : ArrTy Tryz.prog 222 64 5 1 := ⟨by kernel_rfl, by kernel_rfl⟩
instance : ArrTy Tryz.prog 223 4 32 1 := ⟨by kernel_rfl, by kernel_rfl⟩
instance : ArrTy Tryz.prog 224 17 32 1 := ⟨by kernel_rfl, by kernel_rfl⟩
instance : ArrTy Tryz.prog 225 32 5 1 := ⟨by kernel_rfl, by kernel_rfl⟩
instance : ArrTy Tryz.prog 226 2 32 1 := ⟨by kernel_rfl, by kernel_rfl⟩
instance : ArrTy Tryz.prog 227 4 5 1 := ⟨by kernel_rfl, by kernel_rfl⟩
instance : ArrTy Tryz.prog 228 2 5 1 := ⟨by kernel_rfl, by kernel_rfl⟩
instance : ArrTy Tryz.prog 229 96 32 1 := ⟨by kernel_rfl, by kernel_rfl⟩
instance : ArrTy Tryz.prog 286 60 5 1 := ⟨by kernel_rfl, by kernel_rfl⟩
instance : ArrTy Tryz.prog 289 1 275 3 := ⟨by kernel_rfl, by kernel_rfl⟩
instance : ArrTy Tryz.prog 307 4 306 4 := ⟨by kernel_rfl, by kernel_rfl⟩
instance : ArrTy Tryz.prog 314 4 313 4 := ⟨by kernel_rfl, by kernel_rfl⟩
instance : ArrTy Tryz.prog 316 340 306 4 := ⟨by kernel_rfl, by kernel_rfl⟩
instance : ArrTy Tryz.prog 321 7 320 2 := ⟨by kernel_rfl, by kernel_rfl⟩
instance : MapTy Tryz.prog 133 9 137 (.pointer none) := ⟨by kernel_rfl, by kernel_rfl, by kernel_rfl⟩
instance : MapTy Tryz.prog 179 9 22 (.slice none 0 0) := ⟨by kernel_rfl, by kernel_rfl, by kernel_rfl⟩
instance : MapTy Tryz.prog 184 9 172 (.pointer none) := ⟨by kernel_rfl, by kernel_rfl, by kernel_rfl⟩
instance : MapTy Tryz.prog 185 9 172 (.pointer none) := ⟨by kernel_rfl, by kernel_rfl, by kernel_rfl⟩
instance : MapTy Tryz.prog 243 9 137 (.pointer none) := ⟨by kernel_rfl, by kernel_rfl, by kernel_rfl⟩
instance : FldV Tryz.prog 25 0 0 none := ⟨by kernel_rfl⟩
instance : FldV Tryz.prog 25 1 1 none := ⟨by kernel_rfl⟩
instance : FldV Tryz.prog 25 2 2 none := ⟨by kernel_rfl⟩
instance : FldV Tryz.prog 25 3 3 none := ⟨by kernel_rfl⟩
instance : FldV Tryz.prog 25 4 4 none := ⟨by kernel_rfl⟩
instance : FldV Tryz.prog 25 5 5 none := ⟨by kernel_rfl⟩
instance : FldV Tryz.prog 25 6 6 none := ⟨by kernel_rfl⟩
instance : FldV Tryz.prog 25 7 7 none := ⟨by kernel_rfl⟩
instance : FldV Tryz.prog 25 8 8 none := ⟨by kernel_rfl⟩
instance : FldV Tryz.prog 25 9 9 none := ⟨by kernel_rfl⟩
instance : FldV Tryz.prog 34 0 0 none := ⟨by kernel_rfl⟩
instance : FldV Tryz.prog 34 1 1 none := ⟨by kernel_rfl⟩
instance : FldV Tryz.prog 34 2 2 none := ⟨by kernel_rfl⟩
instance : FldV Tryz.prog 37 0 0 none := ⟨by kernel_rfl⟩
instance : FldV Tryz.prog 37 1 1 none := ⟨by kernel_rfl⟩
instance : FldV Tryz.prog 37 2 2 none := ⟨by kernel_rfl⟩
instance : FldV Tryz.prog 37 3 3 none := ⟨by kernel_rfl⟩
instance : FldV Tryz.prog 37 4 4 none := ⟨by kernel_rfl⟩
instance : FldV Tryz.prog 37 5 5 (some 3) := ⟨by kernel_rfl⟩
instance : FldV Tryz.prog 37 6 8 (some 3) := ⟨by kernel_rfl⟩
instance : FldV Tryz.prog 37 7 11 (some 3) := ⟨by kernel_rfl⟩
instance : FldV Tryz.prog 37 8 14 (some 3) := ⟨by kernel_rfl⟩
instance : FldV Tryz.prog 37 9 17 none := ⟨by kernel_rfl⟩
instance : FldV Tryz.prog 37 10 18 none := ⟨by kernel_rfl⟩
instance : FldV Tryz.prog 37 11 19 none := ⟨by kernel_rfl⟩
instance : FldV Tryz.prog 39 0 0 none := ⟨by kernel_rfl⟩
instance : FldV Tryz.prog 39 1 1 none := ⟨by kernel_rfl⟩
instance : FldV Tryz.prog 39 2 2 none := ⟨by kernel_rfl⟩
instance : FldV Tryz.prog 39 3 3 (some 20) := ⟨by kernel_rfl⟩
instance : FldV Tryz.prog 39 4 23 none := ⟨by kernel_rfl⟩
instance : FldV Tryz.prog 44 0 0 none := ⟨by kernel_rfl⟩
instance : FldV Tryz.prog 44 1 1 none := ⟨by kernel_rfl⟩
instance : FldV Tryz.prog 44 2 2 none := ⟨by kernel_rfl⟩
instance : FldV Tryz.prog 44 3 3 none := ⟨by kernel_rfl⟩
instance : FldV Tryz.prog 44 4 4 none := ⟨by kernel_rfl⟩
instance : FldV Tryz.prog 44 5 5 none := ⟨by kernel_rfl⟩
instance : FldV Tryz.prog 50 0 0 none := ⟨by kernel_rfl⟩
instance : FldV Tryz.prog 55 0 0 none := ⟨by kernel_rfl⟩
instance : FldV Tryz.prog 55 1 1 none := ⟨by kernel_rfl⟩
instance : FldV Tryz.prog 58 0 0 none := ⟨by kernel_rfl⟩
instance : FldV Tryz.prog 58 1 1 none := ⟨by kernel_rfl⟩
instance : FldV Tryz.prog 58 2 2 none := ⟨by kernel_rfl⟩
instance : FldV Tryz.prog 58 3 3 (some 2) := ⟨by kernel_rfl⟩
instance : FldV Tryz.prog 58 4 5 (some 2) := ⟨by kernel_rfl⟩
instance : FldV Tryz.prog 58 5 7 (some 2) := ⟨by kernel_rfl⟩
instance : FldV Tryz.prog 58 6 9 (some 2) := ⟨by kernel_rfl⟩
instance : FldV Tryz.prog 58 7 11 none := ⟨by kernel_rfl⟩
instance : FldV Tryz.prog 58 8 12 none := ⟨by kernel_rfl⟩
instance : FldV Tryz.prog 58 9 13 none := ⟨by kernel_rfl⟩
instance : FldV Tryz.prog 58 10 14 none := ⟨by kernel_rfl⟩
instance : FldV Tryz.prog 58 11 15 none := ⟨by kernel_rfl⟩
instance : FldV Tryz.prog 58 12 16 none := ⟨by kernel_rfl⟩
instance : FldV Tryz.prog 58 13 17 none := ⟨by kernel_rfl⟩
instance : FldV Tryz.prog 71 0 0 none := ⟨by kernel_rfl⟩
instance : FldV Tryz.prog 71 1 1 none := ⟨by kernel_rfl⟩
instance : FldV Tryz.prog 71 2 2 none := ⟨by kernel_rfl⟩
instance : FldV Tryz.prog 71 3 3 none := ⟨by kernel_rfl⟩
instance : FldV Tryz.prog 71 4 4 none := ⟨by kernel_rfl⟩
instance : FldV Tryz.prog 71 5 5 none := ⟨by kernel_rfl⟩
instance : FldV Tryz.prog 71 6 6 none := ⟨by kernel_rfl⟩
instance : FldV Tryz.prog 71 7 7 none := ⟨by kernel_rfl⟩
instance : FldV Tryz.prog 71 8 8 none := ⟨by kernel_rfl⟩
instance : FldV Tryz.prog 71 9 9 none := ⟨by kernel_rfl⟩
instance : FldV Tryz.prog 71 10 10 none := ⟨by kernel_rfl⟩
instance : FldV Tryz.prog 74 0 0 none := ⟨by kernel_rfl⟩
instance : FldV Tryz.prog 74 1 1 none := ⟨by kernel_rfl⟩
instance : FldV Tryz.prog 74 2 2 none := ⟨by kernel_rfl⟩
instance : FldV Tryz.prog 74 3 3 none := ⟨by kernel_rfl⟩
instance : FldV Tryz.prog 74 4 4 none := ⟨by kernel_rfl⟩
instance : FldV Tryz.prog 74 5 5 none := ⟨by kernel_rfl⟩
instance : FldV Tryz.prog 74 6 6 none := ⟨by kernel_rfl⟩
instance : FldV Tryz.prog 74 7 7 none := ⟨by kernel_rfl⟩
instance : FldV Tryz.prog 74 8 8 (some 2) := ⟨by kernel_rfl⟩
instance : FldV Tryz.prog 74 9 10 (some 2) := ⟨by kernel_rfl⟩
instance : FldV Tryz.prog 74 10 12 (some 2) := ⟨by kernel_rfl⟩
instance : FldV Tryz.prog 74 11 14 (some 2) := ⟨by kernel_rfl⟩
instance : FldV Tryz.prog 74 12 16 none := ⟨by kernel_rfl⟩
instance : FldV Tryz.prog 74 13 17 none := ⟨by kernel_rfl⟩
instance : FldV Tryz.prog 74 14 18 none := ⟨by kernel_rfl⟩
instance : FldV Tryz.prog 74 15 19 none := ⟨by kernel_rfl⟩
instance : FldV Tryz.prog 74 16 20 none := ⟨by kernel_rfl⟩
instance : FldV Tryz.prog 74 17 21 none := ⟨by kernel_rfl⟩
instance : FldV Tryz.prog 74 18 22 none := ⟨by kernel_rfl⟩
instance : FldV Tryz.prog 77 0 0 none := ⟨by kernel_rfl⟩
instance : FldV Tryz.prog 77 1 1 none := ⟨by kernel_rfl⟩
instance : FldV Tryz.prog 80 0 0 none := ⟨by kernel_rfl⟩
instance : FldV Tryz.prog 80 1 1 none := ⟨by kernel_rfl⟩
instance : FldV Tryz.prog 80 2 2 none := ⟨by kernel_rfl⟩
instance : FldV Tryz.prog 108 0 0 none := ⟨by kernel_rfl⟩
instance : FldV Tryz.prog 108 1 1 none := ⟨by kernel_rfl⟩
instance : FldV Tryz.prog 116 0 0 none := ⟨by kernel_rfl⟩
instance : FldV Tryz.prog 116 1 1 none := ⟨by kernel_rfl⟩
instance : FldV Tryz.prog 116 2 2 (some 20) := ⟨by kernel_rfl⟩
instance : FldV Tryz.prog 135 0 0 none := ⟨by kernel_rfl⟩
instance : FldV Tryz.prog 146 0 0 none := ⟨by kernel_rfl⟩
instance : FldV Tryz.prog 146 1 1 none := ⟨by kernel_rfl⟩
instance : FldV Tryz.prog 146 2 2 none := ⟨by kernel_rfl⟩
instance : FldV Tryz.prog 174 0 0 none := ⟨by kernel_rfl⟩
instance : FldV Tryz.prog 174 1 1 none := ⟨by kernel_rfl⟩
instance : FldV Tryz.prog 174 2 2 none := ⟨by kernel_rfl⟩
instance : FldV Tryz.prog 174 3 3 none := ⟨by kernel_rfl⟩
instance : FldV Tryz.prog 174 4 4 none := ⟨by kernel_rfl⟩
instance : FldV Tryz.prog 174 5 5 none := ⟨by kernel_rfl⟩
instance : FldV Tryz.prog 174 6 6 none := ⟨by kernel_rfl⟩
instance : FldV Tryz.prog 174 7 7 none := ⟨by kernel_rfl⟩
instance : FldV Tryz.prog 174 8 8 none := ⟨by kernel_rfl⟩
instance : FldV Tryz.prog 174 9 9 none := ⟨by kernel_rfl⟩
instance : FldV Tryz.prog 174 10 10 none := ⟨by kernel_rfl⟩
instance : FldV Tryz.prog 174 11 11 none := ⟨by kernel_rfl⟩
instance : FldV Tryz.prog 178 0 0 none := ⟨by kernel_rfl⟩
instance : FldV Tryz.prog 178 1 1 none := ⟨by kernel_rfl⟩
instance : FldV Tryz.prog 178 2 2 none := ⟨by kernel_rfl⟩
instance : FldV Tryz.prog 181 0 0 none := ⟨by kernel_rfl⟩
instance : FldV Tryz.prog 181 1 1 none := ⟨by kernel_rfl⟩
instance : FldV Tryz.prog 181 2 2 none := ⟨by kernel_rfl⟩
instance : FldV Tryz.prog 181 3 3 none := ⟨by kernel_rfl⟩
instance : FldV Tryz.prog 181 4 4 none := ⟨by kernel_rfl⟩
instance : FldV Tryz.prog 181 5 5 (some 3) := ⟨by kernel_rfl⟩
instance : FldV Tryz.prog 181 6 8 (some 3) := ⟨by kernel_rfl⟩
instance : FldV Tryz.prog 181 7 11 (some 3) := ⟨by kernel_rfl⟩
instance : FldV Tryz.prog 181 8 14 (some 3) := ⟨by kernel_rfl⟩
instance : FldV Tryz.prog 181 9 17 none := ⟨by kernel_rfl⟩
instance : FldV Tryz.prog 181 10 18 none := ⟨by kernel_rfl⟩
instance : FldV Tryz.prog 181 11 19 none := ⟨by kernel_rfl⟩
instance : FldV Tryz.prog 187 0 0 none := ⟨by kernel_rfl⟩
instance : FldV Tryz.prog 187 1 1 none := ⟨by kernel_rfl⟩
instance : FldV Tryz.prog 187 2 2 none := ⟨by kernel_rfl⟩
instance : FldV Tryz.prog 187 3 3 none := ⟨by kernel_rfl⟩
instance : FldV Tryz.prog 187 4 4 none := ⟨by kernel_rfl⟩
instance : FldV Tryz.prog 187 5 5 none := ⟨by kernel_rfl⟩
instance : FldV Tryz.prog 187 6 6 none := ⟨by kernel_rfl⟩
instance : FldV Tryz.prog 187 7 7 none := ⟨by kernel_rfl⟩
instance : FldV Tryz.prog 187 8 8 none := ⟨by kernel_rfl⟩
instance : FldV Tryz.prog 187 9 9 none := ⟨by kernel_rfl⟩
instance : FldV Tryz.prog 187 10 10 none := ⟨by kernel_rfl⟩
instance : FldV Tryz.prog 187 11 11 none := ⟨by kernel_rfl⟩
instance : FldV Tryz.prog 187 12 12 none := ⟨by kernel_rfl⟩
instance : FldV Tryz.prog 187 13 13 none := ⟨by kernel_rfl⟩
instance : FldV Tryz.prog 187 14 14 none := ⟨by kernel_rfl⟩
instance : FldV Tryz.prog 187 15 15 none := ⟨by kernel_rfl⟩
instance : FldV Tryz.prog 187 16 16 none := ⟨by kernel_rfl⟩
instance : FldV Tryz.prog 187 17 17 none := ⟨by kernel_rfl⟩
instance : FldV Tryz.prog 192 0 0 none := ⟨by kernel_rfl⟩
instance : FldV Tryz.prog 192 1 1 none := ⟨by kernel_rfl⟩
instance : FldV Tryz.prog 209 0 0 none := ⟨by kernel_rfl⟩
instance : FldV Tryz.prog 215 0 0 none := ⟨by kernel_rfl⟩
instance : FldV Tryz.prog 215 1 1 none := ⟨by kernel_rfl⟩
instance : FldV Tryz.prog 215 2 2 none := ⟨by kernel_rfl⟩
instance : FldV Tryz.prog 215 3 3 none := ⟨by kernel_rfl⟩
instance : FldV Tryz.prog 215 4 4 none := ⟨by kernel_rfl⟩
instance : FldV Tryz.prog 215 5 5 none := ⟨by kernel_rfl⟩
instance : FldV Tryz.prog 215 6 6 none := ⟨by kernel_rfl⟩
instance : FldV Tryz.prog 215 7 7 none := ⟨by kernel_rfl⟩
instance : FldV Tryz.prog 215 8 8 none := ⟨by kernel_rfl⟩
instance : FldV Tryz.prog 215 9 9 none := ⟨by kernel_rfl⟩
instance : FldV Tryz.prog 215 10 10 none := ⟨by kernel_rfl⟩
instance : FldV Tryz.prog 215 11 11 none := ⟨by kernel_rfl⟩
instance : FldV Tryz.prog 231 0 0 none := ⟨by kernel_rfl⟩
instance : FldV Tryz.prog 231 1 1 none := ⟨by kernel_rfl⟩
instance : FldV Tryz.prog 231 2 2 none := ⟨by kernel_rfl⟩
instance : FldV Tryz.prog 231 3 3 none := ⟨by kernel_rfl⟩
instance : FldV Tryz.prog 231 4 4 none := ⟨by kernel_rfl⟩
instance : FldV Tryz.prog 231 5 5 none := ⟨by kernel_rfl⟩
instance : FldV Tryz.prog 231 6 6 none := ⟨by kernel_rfl⟩
instance : FldV Tryz.prog 231 7 7 none := ⟨by kernel_rfl⟩
instance : FldV Tryz.prog 231 8 8 none := ⟨by kernel_rfl⟩
instance : FldV Tryz.prog 231 9 9 none := ⟨by kernel_rfl⟩
instance : FldV Tryz.prog 231 10 10 none := ⟨by kernel_rfl⟩
instance : FldV Tryz.prog 231 11 11 none := ⟨by kernel_rfl⟩
instance : FldV Tryz.prog 231 12 12 none := ⟨by kernel_rfl⟩
instance : FldV Tryz.prog 231 13 13 none := ⟨by kernel_rfl⟩
instance : FldV Tryz.prog 231 14 14 none := ⟨by kernel_rfl⟩
instance : FldV Tryz.prog 231 15 15 none := ⟨by kernel_rfl⟩
instance : FldV Tryz.prog 231 16 16 none := ⟨by kernel_rfl⟩
instance : FldV Tryz.prog 231 17 17 none := ⟨by kernel_rfl⟩
instance : FldV Tryz.prog 231 18 18 none := ⟨by kernel_rfl⟩
instance : FldV Tryz.prog 231 19 19 none := ⟨by kernel_rfl⟩
instance : FldV Tryz.prog 231 20 20 none := ⟨by kernel_rfl⟩
instance : FldV Tryz.prog 231 21 21 none := ⟨by kernel_rfl⟩
instance : FldV Tryz.prog 231 22 22 none := ⟨by kernel_rfl⟩
instance : FldV Tryz.prog 231 23 23 none := ⟨by kernel_rfl⟩
instance : FldV Tryz.prog 231 24 24 none := ⟨by kernel_rfl⟩
instance : FldV Tryz.prog 231 25 25 none := ⟨by kernel_rfl⟩
instance : FldV Tryz.prog 231 26 26 none := ⟨by kernel_rfl⟩
instance : FldV Tryz.prog 231 27 27 none := ⟨by kernel_rfl⟩
instance : FldV Tryz.prog 231 28 28 none := ⟨by kernel_rfl⟩
instance : FldV Tryz.prog 231 29 29 none := ⟨by kernel_rfl⟩
instance : FldV Tryz.prog 231 30 30 none := ⟨by kernel_rfl⟩
instance : FldV Tryz.prog 231 31 31 (some 16) := ⟨by kernel_rfl⟩
instance : FldV Tryz.prog 231 32 47 (some 16) := ⟨by kernel_rfl⟩
instance : FldV Tryz.prog 231 33 63 (some 64) := ⟨by kernel_rfl⟩
instance : FldV Tryz.prog 231 34 127 none := ⟨by kernel_rfl⟩
instance : FldV Tryz.prog 231 35 128 none := ⟨by kernel_rfl⟩
instance : FldV Tryz.prog 231 36 129 none := ⟨by kernel_rfl⟩
instance : FldV Tryz.prog 231 37 130 none := ⟨by kernel_rfl⟩
instance : FldV Tryz.prog 231 38 131 (some 16) := ⟨by kernel_rfl⟩
instance : FldV Tryz.prog 231 39 147 none := ⟨by kernel_rfl⟩
instance : FldV Tryz.prog 231 40 148 none := ⟨by kernel_rfl⟩
instance : FldV Tryz.prog 231 41 149 none := ⟨by kernel_rfl⟩
instance : FldV Tryz.prog 231 42 150 (some 4) := ⟨by kernel_rfl⟩
instance : FldV Tryz.prog 231 43 154 none := ⟨by kernel_rfl⟩
instance : FldV Tryz.prog 231 44 155 none := ⟨by kernel_rfl⟩
instance : FldV Tryz.prog 231 45 156 none := ⟨by kernel_rfl⟩
instance : FldV Tryz.prog 231 46 157 none := ⟨by kernel_rfl⟩
instance : FldV Tryz.prog 231 47 158 none := ⟨by kernel_rfl⟩
instance : FldV Tryz.prog 231 48 159 none := ⟨by kernel_rfl⟩
instance : FldV Tryz.prog 231 49 160 (some 17) := ⟨by kernel_rfl⟩
instance : FldV Tryz.prog 231 50 177 none := ⟨by kernel_rfl⟩
instance : FldV Tryz.prog 231 51 178 none := ⟨by kernel_rfl⟩
instance : FldV Tryz.prog 231 52 179 none := ⟨by kernel_rfl⟩
instance : FldV Tryz.prog 231 53 180 none := ⟨by kernel_rfl⟩
instance : FldV Tryz.prog 231 54 181 none := ⟨by kernel_rfl⟩
instance : FldV Tryz.prog 231 55 182 none := ⟨by kernel_rfl⟩
instance : FldV Tryz.prog 231 56 183 none := ⟨by kernel_rfl⟩
instance : FldV Tryz.prog 231 57 184 none := ⟨by kernel_rfl⟩
instance : FldV Tryz.prog 231 58 185 none := ⟨by kernel_rfl⟩
instance : FldV Tryz.prog 231 59 186 none := ⟨by kernel_rfl⟩
instance : FldV Tryz.prog 231 60 187 none := ⟨by kernel_rfl⟩
instance : FldV Tryz.prog 231 61 188 none := ⟨by kernel_rfl⟩
instance : FldV Tryz.prog 231 62 189 none := ⟨by kernel_rfl⟩
instance : FldV Tryz.prog 231 63 190 none := ⟨by kernel_rfl⟩
instance : FldV Tryz.prog 231 64 191 none := ⟨by kernel_rfl⟩
instance : FldV Tryz.prog 231 65 192 none := ⟨by kernel_rfl⟩
instance : FldV Tryz.prog 231 66 193 none := ⟨by kernel_rfl⟩
instance : FldV Tryz.prog 231 67 194 none := ⟨by kernel_rfl⟩
instance : FldV Tryz.prog 231 68 195 none := ⟨by kernel_rfl⟩
instance : FldV Tryz.prog 231 69 196 none := ⟨by kernel_rfl⟩
instance : FldV Tryz.prog 231 70 197 none := ⟨by kernel_rfl⟩
instance : FldV Tryz.prog 231 71 198 none := ⟨by kernel_rfl⟩
instance : FldV Tryz.prog 231 72 199 (some 32) := ⟨by kernel_rfl⟩
instance : FldV Tryz.prog 231 73 231 none := ⟨by kernel_rfl⟩
instance : FldV Tryz.prog 231 74 232 none := ⟨by kernel_rfl⟩
instance : FldV Tryz.prog 231 75 233 none := ⟨by kernel_rfl⟩
instance : FldV Tryz.prog 231 76 234 none := ⟨by kernel_rfl⟩
instance : FldV Tryz.prog 231 77 235 none := ⟨by kernel_rfl⟩
instance : FldV Tryz.prog 231 78 236 (some 32) := ⟨by kernel_rfl⟩
instance : FldV Tryz.prog 231 79 268 (some 64) := ⟨by kernel_rfl⟩
instance : FldV Tryz.prog 231 80 332 none := ⟨by kernel_rfl⟩
instance : FldV Tryz.prog 231 81 333 none := ⟨by kernel_rfl⟩
instance : FldV Tryz.prog 231 82 334 none := ⟨by kernel_rfl⟩
instance : FldV Tryz.prog 231 83 335 (some 2) := ⟨by kernel_rfl⟩
instance : FldV Tryz.prog 231 84 337 (some 4) := ⟨by kernel_rfl⟩
instance : FldV Tryz.prog 231 85 341 (some 16) := ⟨by kernel_rfl⟩
instance : FldV Tryz.prog 231 86 357 none := ⟨by kernel_rfl⟩
instance : FldV Tryz.prog 231 87 358 none := ⟨by kernel_rfl⟩
instance : FldV Tryz.prog 231 88 359 none := ⟨by kernel_rfl⟩
instance : FldV Tryz.prog 231 89 360 none := ⟨by kernel_rfl⟩
instance : FldV Tryz.prog 231 90 361 none := ⟨by kernel_rfl⟩
instance : FldV Tryz.prog 231 91 362 none := ⟨by kernel_rfl⟩
instance : FldV Tryz.prog 231 92 363 none := ⟨by kernel_rfl⟩
instance : FldV Tryz.prog 231 93 364 none := ⟨by kernel_rfl⟩
instance : FldV Tryz.prog 231 94 365 none := ⟨by kernel_rfl⟩
instance : FldV Tryz.prog 231 95 366 (some 2) := ⟨by kernel_rfl⟩
instance : FldV Tryz.prog 231 96 368 (some 96) := ⟨by kernel_rfl⟩
instance : FldV Tryz.prog 231 97 464 none := ⟨by kernel_rfl⟩
instance : FldV Tryz.prog 245 0 0 none := ⟨by kernel_rfl⟩
instance : FldV Tryz.prog 245 1 1 none := ⟨by kernel_rfl⟩
instance : FldV Tryz.prog 245 2 2 none := ⟨by kernel_rfl⟩
instance : FldV Tryz.prog 245 3 3 none := ⟨by kernel_rfl⟩
instance : FldV Tryz.prog 245 4 4 none := ⟨by kernel_rfl⟩
instance : FldV Tryz.prog 245 5 5 none := ⟨by kernel_rfl⟩
instance : FldV Tryz.prog 245 6 6 none := ⟨by kernel_rfl⟩
instance : FldV Tryz.prog 245 7 7 none := ⟨by kernel_rfl⟩
instance : FldV Tryz.prog 250 0 0 none := ⟨by kernel_rfl⟩
instance : FldV Tryz.prog 250 1 1 none := ⟨by kernel_rfl⟩
instance : FldV Tryz.prog 250 2 2 none := ⟨by kernel_rfl⟩
instance : FldV Tryz.prog 250 3 3 none := ⟨by kernel_rfl⟩
instance : FldV Tryz.prog 250 4 4 none := ⟨by kernel_rfl⟩
instance : FldV Tryz.prog 267 0 0 none := ⟨by kernel_rfl⟩
instance : FldV Tryz.prog 267 1 1 none := ⟨by kernel_rfl⟩
instance : FldV Tryz.prog 267 2 2 none := ⟨by kernel_rfl⟩
instance : FldV Tryz.prog 267 3 3 none := ⟨by kernel_rfl⟩
instance : FldV Tryz.prog 275 0 0 none := ⟨by kernel_rfl⟩
instance : FldV Tryz.prog 275 1 1 none := ⟨by kernel_rfl⟩
instance : FldV Tryz.prog 275 2 2 none := ⟨by kernel_rfl⟩
instance : FldV Tryz.prog 279 0 0 none := ⟨by kernel_rfl⟩
instance : FldV Tryz.prog 279 1 1 none := ⟨by kernel_rfl⟩
instance : FldV Tryz.prog 279 2 2 none := ⟨by kernel_rfl⟩
instance : FldV Tryz.prog 288 0 0 none := ⟨by kernel_rfl⟩
instance : FldV Tryz.prog 288 1 1 none := ⟨by kernel_rfl⟩
instance : FldV Tryz.prog 288 2 2 none := ⟨by kernel_rfl⟩
instance : FldV Tryz.prog 288 3 3 none := ⟨by kernel_rfl⟩
instance : FldV Tryz.prog 288 4 4 none := ⟨by kernel_rfl⟩
instance : FldV Tryz.prog 288 5 5 none := ⟨by kernel_rfl⟩
instance : FldV Tryz.prog 288 6 6 none := ⟨by kernel_rfl⟩
instance : FldV Tryz.prog 288 7 7 none := ⟨by kernel_rfl⟩
instance : FldV Tryz.prog 288 8 8 none := ⟨by kernel_rfl⟩
instance : FldV Tryz.prog 288 9 9 none := ⟨by kernel_rfl⟩
instance : FldV Tryz.prog 288 10 10 none := ⟨by kernel_rfl⟩
instance : FldV Tryz.prog 288 11 11 none := ⟨by kernel_rfl⟩
instance : FldV Tryz.prog 288 12 12 (some 60) := ⟨by kernel_rfl⟩
instance : FldV Tryz.prog 288 13 72 none := ⟨by kernel_rfl⟩
instance : FldV Tryz.prog 288 14 73 none := ⟨by kernel_rfl⟩
instance : FldV Tryz.prog 288 15 74 none := ⟨by kernel_rfl⟩
instance : FldV Tryz.prog 288 16 75 none := ⟨by kernel_rfl⟩
instance : FldV Tryz.prog 288 17 76 none := ⟨by kernel_rfl⟩
instance : FldV Tryz.prog 288 18 77 none := ⟨by kernel_rfl⟩
instance : FldV Tryz.prog 288 19 78 none := ⟨by kernel_rfl⟩
instance : FldV Tryz.prog 288 20 79 none := ⟨by kernel_rfl⟩
instance : FldV Tryz.prog 288 21 80 none := ⟨by kernel_rfl⟩
instance : FldV Tryz.prog 288 22 81 none := ⟨by kernel_rfl⟩
instance : FldV Tryz.prog 288 23 82 none := ⟨by kernel_rfl⟩
instance : FldV Tryz.prog 288 24 83 none := ⟨by kernel_rfl⟩
instance : FldV Tryz.prog 288 25 84 none := ⟨by kernel_rfl⟩
instance : FldV Tryz.prog 288 26 85 none := ⟨by kernel_rfl⟩
instance : FldV Tryz.prog 288 27 86 none := ⟨by kernel_rfl⟩
instance : FldV Tryz.prog 288 28 87 none := ⟨by kernel_rfl⟩
instance : FldV Tryz.prog 288 29 88 none := ⟨by kernel_rfl⟩
instance : FldV Tryz.prog 288 30 89 none := ⟨by kernel_rfl⟩
instance : FldV Tryz.prog 288 31 90 none := ⟨by kernel_rfl⟩
instance : FldV Tryz.prog 304 0 0 none := ⟨by kernel_rfl⟩
instance : FldV Tryz.prog 304 1 1 none := ⟨by kernel_rfl⟩
instance : FldV Tryz.prog 304 2 2 none := ⟨by kernel_rfl⟩
instance : FldV Tryz.prog 304 3 3 none := ⟨by kernel_rfl⟩
instance : FldV Tryz.prog 304 4 4 none := ⟨by kernel_rfl⟩
instance : FldV Tryz.prog 306 0 0 none := ⟨by kernel_rfl⟩
instance : FldV Tryz.prog 306 1 1 none := ⟨by kernel_rfl⟩
instance : FldV Tryz.prog 306 2 2 none := ⟨by kernel_rfl⟩
instance : FldV Tryz.prog 306 3 3 none := ⟨by kernel_rfl⟩
instance : FldV Tryz.prog 308 0 0 (some 5) := ⟨by kernel_rfl⟩
instance : FldV Tryz.prog 308 1 5 (some 16) := ⟨by kernel_rfl⟩
instance : FldV Tryz.prog 313 0 0 none := ⟨by kernel_rfl⟩
instance : FldV Tryz.prog 313 1 1 none := ⟨by kernel_rfl⟩
instance : FldV Tryz.prog 313 2 2 none := ⟨by kernel_rfl⟩
instance : FldV Tryz.prog 313 3 3 none := ⟨by kernel_rfl⟩
instance : FldV Tryz.prog 315 0 0 (some 5) := ⟨by kernel_rfl⟩
instance : FldV Tryz.prog 315 1 5 (some 16) := ⟨by kernel_rfl⟩
instance : FldV Tryz.prog 317 0 0 (some 5) := ⟨by kernel_rfl⟩
instance : FldV Tryz.prog 317 1 5 (some 1360) := ⟨by kernel_rfl⟩
instance : FldV Tryz.prog 320 0 0 none := ⟨by kernel_rfl⟩
instance : FldV Tryz.prog 320 1 1 none := ⟨by kernel_rfl⟩
instance : FldV Tryz.prog 326 0 0 none := ⟨by kernel_rfl⟩
instance : FldV Tryz.prog 326 1 1 none := ⟨by kernel_rfl⟩
instance : FldV Tryz.prog 326 2 2 none := ⟨by kernel_rfl⟩
instance : FldV Tryz.prog 326 3 3 none := ⟨by kernel_rfl⟩
instance : Body Tryz.prog 2 := ⟨by kernel_rfl⟩
instance : Body Tryz.prog 3 := ⟨by kernel_rfl⟩
instance : Body Tryz.prog 4 := ⟨by kernel_rfl⟩
instance : Body Tryz.prog 5 := ⟨by kernel_rfl⟩
instance : Body Tryz.prog 6 := ⟨by kernel_rfl⟩
instance : Body Tryz.prog 7 := ⟨by kernel_rfl⟩
instance : Body Tryz.prog 8 := ⟨by kernel_rfl⟩
instance : Body Tryz.prog 9 := ⟨by kernel_rfl⟩
instance : Body Tryz.prog 10 := ⟨by kernel_rfl⟩
instance : Body Tryz.prog 11 := ⟨by kernel_rfl⟩
instance : Body Tryz.prog 12 := ⟨by kernel_rfl⟩
instance : Body Tryz.prog 13 := ⟨by kernel_rfl⟩
instance : Body Tryz.prog 14 := ⟨by kernel_rfl⟩
instance : Body Tryz.prog 15 := ⟨by kernel_rfl⟩
instance : Body Tryz.prog 16 := ⟨by kernel_rfl⟩
instance : Body Tryz.prog 17 := ⟨by kernel_rfl⟩
instance : Body Tryz.prog 18 := ⟨by kernel_rfl⟩
instance : Body Tryz.prog 19 := ⟨by kernel_rfl⟩
instance : Body Tryz.prog 20 := ⟨by kernel_rfl⟩
instance : Body Tryz.prog 21 := ⟨by kernel_rfl⟩
instance : Body Tryz.prog 22 := ⟨by kernel_rfl⟩
instance : Body Tryz.prog 23 := ⟨by kernel_rfl⟩
instance : Body Tryz.prog 24 := ⟨by kernel_rfl⟩
instance : Body Tryz.prog 25 := ⟨by kernel_rfl⟩
instance : Body Tryz.prog 26 := ⟨by kernel_rfl⟩
instance : Body Tryz.prog 27 := ⟨by kernel_rfl⟩
instance : Body Tryz.prog 28 := ⟨by kernel_rfl⟩
instance : Body Tryz.prog 29 := ⟨by kernel_rfl⟩
instance : Body Tryz.prog 30 := ⟨by kernel_rfl⟩
instance : Body Tryz.prog 31 := ⟨by kernel_rfl⟩
instance : Body Tryz.prog 32 := ⟨by kernel_rfl⟩
instance : Body Tryz.prog 33 := ⟨by kernel_rfl⟩
instance : Body Tryz.prog 34 := ⟨by kernel_rfl⟩
instance : Body Tryz.prog 35 := ⟨by kernel_rfl⟩
instance : Body Tryz.prog 36 := ⟨by kernel_rfl⟩
instance : Body Tryz.prog 37 := ⟨by kernel_rfl⟩
instance : Body Tryz.prog 38 := ⟨by kernel_rfl⟩
instance : Body Tryz.prog 39 := ⟨by kernel_rfl⟩
instance : Body Tryz.prog 40 := ⟨by kernel_rfl⟩
instance : Body Tryz.prog 41 := ⟨by kernel_rfl⟩
instance : Body Tryz.prog 42 := ⟨by kernel_rfl⟩
instance : Body Tryz.prog 43 := ⟨by kernel_rfl⟩
instance : Body Tryz.prog 44 := ⟨by kernel_rfl⟩
instance : Body Tryz.prog 45 := ⟨by kernel_rfl⟩
instance : Body Tryz.prog 46 := ⟨by kernel_rfl⟩
instance : Body Tryz.prog 47 := ⟨by kernel_rfl⟩
instance : Body Tryz.prog 48 := ⟨by kernel_rfl⟩
instance : Body Tryz.prog 49 := ⟨by kernel_rfl⟩
instance : Body Tryz.prog 50 := ⟨by kernel_rfl⟩
instance : Body Tryz.prog 51 := ⟨by kernel_rfl⟩
instance : Body Tryz.prog 52 := ⟨by kernel_rfl⟩
instance : Body Tryz.prog 53 := ⟨by kernel_rfl⟩
instance : Body Tryz.prog 54 := ⟨by kernel_rfl⟩
instance : Body Tryz.prog 55 := ⟨by kernel_rfl⟩
instance : Body Tryz.prog 56 := ⟨by kernel_rfl⟩
instance : Body Tryz.prog 57 := ⟨by kernel_rfl⟩
instance : Body Tryz.prog 58 := ⟨by kernel_rfl⟩
instance : Body Tryz.prog 59 := ⟨by kernel_rfl⟩
instance : Body Tryz.prog 60 := ⟨by kernel_rfl⟩
instance : Body Tryz.prog 61 := ⟨by kernel_rfl⟩
instance : Body Tryz.prog 62 := ⟨by kernel_rfl⟩
instance : Body Tryz.prog 63 := ⟨by kernel_rfl⟩
instance : Body Tryz.prog 64 := ⟨by kernel_rfl⟩
instance : Body Tryz.prog 65 := ⟨by kernel_rfl⟩
instance : Body Tryz.prog 66 := ⟨by kernel_rfl⟩
instance : Body Tryz.prog 67 := ⟨by kernel_rfl⟩
instance : Body Tryz.prog 68 := ⟨by kernel_rfl⟩
instance : Body Tryz.prog 69 := ⟨by kernel_rfl⟩
instance : Body Tryz.prog 70 := ⟨by kernel_rfl⟩
instance : Body Tryz.prog 71 := ⟨by kernel_rfl⟩
instance : Body Tryz.prog 72 := ⟨by kernel_rfl⟩
instance : Body Tryz.prog 73 := ⟨by kernel_rfl⟩
instance : Body Tryz.prog 74 := ⟨by kernel_rfl⟩
instance : Body Tryz.prog 75 := ⟨by kernel_rfl⟩
instance : Body Tryz.prog 76 := ⟨by kernel_rfl⟩
instance : Body Tryz.prog 77 := ⟨by kernel_rfl⟩
instance : Body Tryz.prog 78 := ⟨by kernel_rfl⟩
instance : Body Tryz.prog 79 := ⟨by kernel_rfl⟩
instance : Body Tryz.prog 80 := ⟨by kernel_rfl⟩
instance : Body Tryz.prog 81 := ⟨by kernel_rfl⟩
instance : Body Tryz.prog 82 := ⟨by kernel_rfl⟩
instance : Body Tryz.prog 83 := ⟨by kernel_rfl⟩
instance : Body Tryz.prog 84 := ⟨by kernel_rfl⟩
instance : Body Tryz.prog 85 := ⟨by kernel_rfl⟩
instance : Body Tryz.prog 86 := ⟨by kernel_rfl⟩
instance : Body Tryz.prog 87 := ⟨by kernel_rfl⟩
instance : Body Tryz.prog 88 := ⟨by kernel_rfl⟩
instance : Body Tryz.prog 89 := ⟨by kernel_rfl⟩
instance : Body Tryz.prog 90 := ⟨by kernel_rfl⟩
instance : Body Tryz.prog 91 := ⟨by kernel_rfl⟩
instance : Body Tryz.prog 92 := ⟨by kernel_rfl⟩
instance : Body Tryz.prog 93 := ⟨by kernel_rfl⟩
instance : Body Tryz.prog 94 := ⟨by kernel_rfl⟩
instance : Body Tryz.prog 95 := ⟨by kernel_rfl⟩
instance : Body Tryz.prog 96 := ⟨by kernel_rfl⟩
instance : Body Tryz.prog 97 := ⟨by kernel_rfl⟩
instance : Body Tryz.prog 98 := ⟨by kernel_rfl⟩
instance : Body Tryz.prog 99 := ⟨by kernel_rfl⟩
instance : Body Tryz.prog 100 := ⟨by kernel_rfl⟩
instance : Body Tryz.prog 101 := ⟨by kernel_rfl⟩
instance : Body Tryz.prog 102 := ⟨by kernel_rfl⟩
instance : Body Tryz.prog 103 := ⟨by kernel_rfl⟩
instance : Body Tryz.prog 104 := ⟨by kernel_rfl⟩
instance : Body Tryz.prog 105 := ⟨by kernel_rfl⟩
instance : Body Tryz.prog 106 := ⟨by kernel_rfl⟩
instance : Body Tryz.prog 107 := ⟨by kernel_rfl⟩
instance : Body Tryz.prog 108 := ⟨by kernel_rfl⟩
instance : Body Tryz.prog 109 := ⟨by kernel_rfl⟩
instance : Body Tryz.prog 110 := ⟨by kernel_rfl⟩
instance : Body Tryz.prog 111 := ⟨by kernel_rfl⟩
instance : Body Tryz.prog 112 := ⟨by kernel_rfl⟩
instance : Body Tryz.prog 113 := ⟨by kernel_rfl⟩
instance : Body Tryz.prog 114 := ⟨by kernel_rfl⟩
instance : Body Tryz.prog 115 := ⟨by kernel_rfl⟩
instance : Body Tryz.prog 116 := ⟨by kernel_rfl⟩
instance : Body Tryz.prog 117 := ⟨by kernel_rfl⟩
instance : Body Tryz.prog 118 := ⟨by kernel_rfl⟩
instance : Body Tryz.prog 119 := ⟨by kernel_rfl⟩
instance : Body Tryz.prog 120 := ⟨by kernel_rfl⟩
instance : Body Tryz.prog 121 := ⟨by kernel_rfl⟩
instance : Body Tryz.prog 122 := ⟨by kernel_rfl⟩
instance : Body Tryz.prog 123 := ⟨by kernel_rfl⟩
instance : Body Tryz.prog 124 := ⟨by kernel_rfl⟩
instance : Body Tryz.prog 125 := ⟨by kernel_rfl⟩
instance : Body Tryz.prog 126 := ⟨by kernel_rfl⟩
instance : Body Tryz.prog 127 := ⟨by kernel_rfl⟩
instance : Body Tryz.prog 128 := ⟨by kernel_rfl⟩
instance : Body Tryz.prog 129 := ⟨by kernel_rfl⟩
instance : Body Tryz.prog 130 := ⟨by kernel_rfl⟩
instance : Body Tryz.prog 131 := ⟨by kernel_rfl⟩
instance : Body Tryz.prog 132 := ⟨by kernel_rfl⟩
instance : Body Tryz.prog 133 := ⟨by kernel_rfl⟩
instance : Body Tryz.prog 134 := ⟨by kernel_rfl⟩
instance : Body Tryz.prog 135 := ⟨by kernel_rfl⟩
instance : Body Tryz.prog 136 := ⟨by kernel_rfl⟩
instance : Body Tryz.prog 137 := ⟨by kernel_rfl⟩
instance : Body Tryz.prog 138 := ⟨by kernel_rfl⟩
instance : Body Tryz.prog 139 := ⟨by kernel_rfl⟩
instance : Body Tryz.prog 140 := ⟨by kernel_rfl⟩
instance : Body Tryz.prog 141 := ⟨by kernel_rfl⟩
instance : Body Tryz.prog 142 := ⟨by kernel_rfl⟩
instance : Body Tryz.prog 143 := ⟨by kernel_rfl⟩
instance : Body Tryz.prog 144 := ⟨by kernel_rfl⟩
instance : Body Tryz.prog 145 := ⟨by kernel_rfl⟩
instance : Body Tryz.prog 146 := ⟨by kernel_rfl⟩
instance : Body Tryz.prog 147 := ⟨by kernel_rfl⟩
instance : Body Tryz.prog 148 := ⟨by kernel_rfl⟩
instance : Body Tryz.prog 149 := ⟨by kernel_rfl⟩
instance : Body Tryz.prog 150 := ⟨by kernel_rfl⟩
instance : Body Tryz.prog 151 := ⟨by kernel_rfl⟩
instance : Body Tryz.prog 152 := ⟨by kernel_rfl⟩
instance : Body Tryz.prog 153 := ⟨by kernel_rfl⟩
instance : Body Tryz.prog 154 := ⟨by kernel_rfl⟩
instance : Body Tryz.prog 155 := ⟨by kernel_rfl⟩
instance : Body Tryz.prog 156 := ⟨by kernel_rfl⟩
instance : Body Tryz.prog 157 := ⟨by kernel_rfl⟩
instance : Body Tryz.prog 158 := ⟨by kernel_rfl⟩
instance : Body Tryz.prog 159 := ⟨by kernel_rfl⟩
instance : Body Tryz.prog 160 := ⟨by kernel_rfl⟩
instance : Body Tryz.prog 161 := ⟨by kernel_rfl⟩
instance : Body Tryz.prog 162 := ⟨by kernel_rfl⟩
instance : Body Tryz.prog 163 := ⟨by kernel_rfl⟩
instance : Body Tryz.prog 164 := ⟨by kernel_rfl⟩
instance : Body Tryz.prog 165 := ⟨by kernel_rfl⟩
instance : Body Tryz.prog 166 := ⟨by kernel_rfl⟩
instance : Body Tryz.prog 167 := ⟨by kernel_rfl⟩
instance : Body Tryz.prog 168 := ⟨by kernel_rfl⟩
instance : Body Tryz.prog 169 := ⟨by kernel_rfl⟩
instance : Body Tryz.prog 170 := ⟨by kernel_rfl⟩
instance : Body Tryz.prog 171 := ⟨by kernel_rfl⟩
instance : Body Tryz.prog 172 := ⟨by kernel_rfl⟩
instance : Body Tryz.prog 173 := ⟨by kernel_rfl⟩
instance : Body Tryz.prog 174 := ⟨by kernel_rfl⟩
instance : Body Tryz.prog 175 := ⟨by kernel_rfl⟩
instance : Body Tryz.prog 176 := ⟨by kernel_rfl⟩
instance : Body Tryz.prog 177 := ⟨by kernel_rfl⟩
instance : Body Tryz.prog 178 := ⟨by kernel_rfl⟩
instance : Body Tryz.prog 179 := ⟨by kernel_rfl⟩
instance : Body Tryz.prog 180 := ⟨by kernel_rfl⟩
instance : Body Tryz.prog 181 := ⟨by kernel_rfl⟩
instance : Body Tryz.prog 182 := ⟨by kernel_rfl⟩
instance : Body Tryz.prog 183 := ⟨by kernel_rfl⟩
instance : Body Tryz.prog 184 := ⟨by kernel_rfl⟩
instance : Body Tryz.prog 185 := ⟨by kernel_rfl⟩
instance : Body Tryz.prog 186 := ⟨by kernel_rfl⟩
instance : Body Tryz.prog 187 := ⟨by kernel_rfl⟩
instance : Body Tryz.prog 188 := ⟨by kernel_rfl⟩
instance : Body Tryz.prog 189 := ⟨by kernel_rfl⟩
instance : Body Tryz.prog 190 := ⟨by kernel_rfl⟩
instance : Body Tryz.prog 191 := ⟨by kernel_rfl⟩
instance : Body Tryz.prog 192 := ⟨by kernel_rfl⟩
instance : Body Tryz.prog 193 := ⟨by kernel_rfl⟩
instance : Body Tryz.prog 194 := ⟨by kernel_rfl⟩
instance : Body Tryz.prog 195 := ⟨by kernel_rfl⟩
instance : Body Tryz.prog 196 := ⟨by kernel_rfl⟩
instance : Body Tryz.prog 197 := ⟨by kernel_rfl⟩
instance : Body Tryz.prog 198 := ⟨by kernel_rfl⟩
instance : Body Tryz.prog 199 := ⟨by kernel_rfl⟩
instance : Body Tryz.prog 200 := ⟨by kernel_rfl⟩
instance : Body Tryz.prog 201 := ⟨by kernel_rfl⟩
instance : Body Tryz.prog 202 := ⟨by kernel_rfl⟩
instance : Body Tryz.prog 203 := ⟨by kernel_rfl⟩
instance : Body Tryz.prog 205 := ⟨by kernel_rfl⟩
instance : Body Tryz.prog 206 := ⟨by kernel_rfl⟩
instance : Body Tryz.prog 244 := ⟨by kernel_rfl⟩
instance : StrTy Tryz.prog 9 := ⟨by kernel_rfl⟩
instance : StrTy Tryz.prog 10 := ⟨by kernel_rfl⟩
instance : StrTy Tryz.prog 11 := ⟨by kernel_rfl⟩
instance : KTy Tryz.prog 22 1 := ⟨by kernel_rfl⟩
instance : KTy Tryz.prog 87 2 := ⟨by kernel_rfl⟩
instance : KTy Tryz.prog 88 0 := ⟨by kernel_rfl⟩
instance : KTy Tryz.prog 89 0 := ⟨by kernel_rfl⟩
instance : KTy Tryz.prog 133 3 := ⟨by kernel_rfl⟩
instance : KTy Tryz.prog 137 0 := ⟨by kernel_rfl⟩
instance : KTy Tryz.prog 172 0 := ⟨by kernel_rfl⟩
instance : KTy Tryz.prog 179 3 := ⟨by kernel_rfl⟩
instance : KTy Tryz.prog 243 3 := ⟨by kernel_rfl⟩
end Go.Proofs.YtppkiiomedembaaGreatDoor
namespace Go.Proofs.YtppkiiomedembaaGreatDoor
open Go
def placesOf (P : Program) (T : Nat) : Option (List (Nat × Nat)) := match P.underlying T with
  | some (.struct fs) => fs.toList.mapM fun f => (P.info? f.type).map fun i => (f.offset, i.size)
  | some (.array n e) => (P.info? e).map fun i => (List.range n).map fun k => (k * i.size, i.size)
  | _ => none
class BldTy (P : Program) (T : Nat) (pl : outParam (List (Nat × Nat))) (z : outParam (List Value)) : Prop where
  hp : placesOf P T = some pl
  hz : ((P.info? T).bind (·.zero)).map (·.cells.toList) = some z
end Go.Proofs.YtppkiiomedembaaGreatDoor
namespace Go.Proofs.YtppkiiomedembaaGreatDoor
open Go
def HP.star (L : List HP) : HP where
  sat h S := sats L h S
  loc h he := sats_loc h he
  dom h hg := sats_dom h hg
def HP.ex {ι : Type} (A : ι → HP) : HP where
  sat h S := ∃ i, (A i).sat h S
  loc := fun ⟨i, h⟩ he => ⟨i, (A i).loc h he⟩
  dom := fun ⟨i, h⟩ hg => (A i).dom h hg
def HP.fact (p : Prop) (A : HP) : HP where
  sat h S := p ∧ A.sat h S
  loc := fun ⟨p, h⟩ he => ⟨p, A.loc h he⟩
  dom := fun ⟨_, h⟩ hg => A.dom h hg
def Tn {ι : Type} (M : List HP) (P : ι → Prop) (M' : ι → List HP) : Prop := ∀ m S, sats M m S → ∃ i S', P i ∧ sats (M' i) m S' ∧ ∀ x, S' x → S x
theorem St.tn {q : Bool} {w0 w : World} {S0 : Nat → Prop} {ι : Type} {M L F : List HP} {P : ι → Prop} {M' : ι → List HP} (hT : Tn M P M') (ht : Subs M L F) (hs : St q w0 S0 L w) : ∃ i, P i ∧ St q w0 S0 (M' i ++ F) w := by
  obtain ⟨S, hS, hin⟩ := (hs.perm ht.perm).sat
  obtain ⟨S1, S2, h1, h2, hd, hu⟩ := sats_append.1 hS
  obtain ⟨i, S1', hP, h1', hsub⟩ := hT _ _ h1
  exact ⟨i, hP, hs.same, hs.os, hs.tape, hs.output, hs.size, hs.old, _, sats_append.2 ⟨S1', S2, h1', h2, fun g hg => hd g (hsub g hg), fun _ => Iff.rfl⟩, fun g hg => hin g ((hu g).2 (hg.imp (hsub g) id))⟩
inductive App : List HP → List HP → List HP → Prop where
  | nil {F : List HP} : App [] F F
  | cons {A : HP} {M F N : List HP} : App M F N → App (A :: M) F (A :: N)
theorem App.eq {M F N : List HP} (h : App M F N) : M ++ F = N := by
  induction h with
  | nil => rfl
  | cons _ ih => rw [List.cons_append, ih]
section
variable {X : Fx} {ops : Array Oper} {cf : Nat → Cls} {k : List Item} {is : List Nat} {l : List Oper} {loc : List Value} {tmp : List (Nat × Value)} {L F M : List HP} {ι : Type} {P : ι → Prop} {M' : ι → List HP}
theorem E.tn {N : ι → List HP} (hT : Tn M P M') (ht : Subs M L F) (hN : ∀ i, App (M' i) F (N i)) (h : ∀ i, P i → E X k loc tmp (N i)) : E X k loc tmp L := fun w0 S0 a w hr hs => by
  obtain ⟨i, hP, hs'⟩ := hs.tn hT ht
  rw [(hN i).eq] at hs'
  exact h i hP w0 S0 a w hr hs'
theorem EO.tn {N : ι → List HP} (hT : Tn M P M') (ht : Subs M L F) (hN : ∀ i, App (M' i) F (N i)) (h : ∀ i, P i → EO X ops cf k is l loc tmp (N i)) : EO X ops cf k is l loc tmp L := fun hl w0 S0 a w hr hs => by
  obtain ⟨i, hP, hs'⟩ := hs.tn hT ht
  rw [(hN i).eq] at hs'
  exact h i hP hl w0 S0 a w hr hs'
theorem EO.perm {L' : List HP} (hp : L.Perm L') (h : EO X ops cf k is l loc tmp L') : EO X ops cf k is l loc tmp L := fun hl w0 S0 a w hr hs => h hl w0 S0 a w hr (hs.perm hp)
theorem EO.know {A : HP} {p : Prop} (ht : Take A L F) (hA : ∀ m S, A.sat m S → p) (h : p → EO X ops cf k is l loc tmp L) : EO X ops cf k is l loc tmp L := fun hl w0 S0 a w hr hs => by
  obtain ⟨S, hS, _⟩ := (hs.perm ht.perm).sat
  obtain ⟨S1, S2, h1, _⟩ := hS
  exact h (hA _ _ h1) hl w0 S0 a w hr hs
theorem FnG.tn {q : Bool} {P' : Program} {f : FuncId} {args : Array Value} {L F M : List HP} {R : Value → List HP → Prop} {ι : Type} {P : ι → Prop} {M' : ι → List HP} (hT : Tn M P M') (ht : Subs M L F) (h : ∀ i, P i → FnG q P' f args (M' i ++ F) R) : FnG q P' f args L R := by
  intro w S hS
  obtain ⟨i, hP, hs'⟩ := (St.start (q := q) hS).tn hT ht
  obtain ⟨S', hS', hin⟩ := hs'.sat
  refine (h i hP w S' hS').mono fun v w' ⟨L', hR, hst⟩ => ⟨L', hR, hst.same, hst.os, hst.tape, hst.output, hst.size, fun g hg hn => ?_, ?_⟩
  · by_cases hg' : S' g
    · rcases hin g hg' with h1 | h1
      · exact absurd h1 hn
      · omega
    · exact hst.old g hg hg'
  · obtain ⟨T, hT1, hT2⟩ := hst.sat
    refine ⟨T, hT1, fun g hg => ?_⟩
    rcases hT2 g hg with h1 | h1
    · exact hin g h1
    · exact .inr h1
end
/-! ### opening and closing -/
theorem Tn.one {A : HP} {ι : Type} {P : ι → Prop} {M' : ι → List HP} (h : ∀ m S, A.sat m S → ∃ i, P i ∧ sats (M' i) m S) : Tn [A] P M' := fun m S hS => by
  obtain ⟨i, hP, hs⟩ := h m S (sats_one' hS)
  exact ⟨i, S, hP, hs, fun _ h => h⟩
theorem Tn.open {L : List HP} : Tn [HP.star L] (fun _ : Unit => True) (fun _ => L) := .one fun m S h => ⟨(), trivial, h⟩
theorem Tn.close {L : List HP} : Tn L (fun _ : Unit => True) (fun _ => [HP.star L]) := fun m S h => ⟨(), S, trivial, sats_one h, fun _ h => h⟩
theorem Tn.ex {ι : Type} {A : ι → HP} : Tn [HP.ex A] (fun _ => True) (fun i => [A i]) := .one fun m S ⟨i, h⟩ => ⟨i, trivial, sats_one h⟩
theorem Tn.fact {p : Prop} {A : HP} : Tn [HP.fact p A] (fun _ : Unit => p) (fun _ => [A]) := .one fun m S ⟨hp, h⟩ => ⟨(), hp, sats_one h⟩
theorem Tn.exs {ι : Type} {A : ι → List HP} {p : ι → Prop} : Tn [HP.ex fun i => HP.fact (p i) (HP.star (A i))] p A := .one fun m S ⟨i, hp, h⟩ => ⟨i, hp, h⟩
theorem Tn.inexs {ι : Type} {A : ι → List HP} {p : ι → Prop} (i : ι) (hp : p i) : Tn (A i) (fun _ : Unit => True) (fun _ => [HP.ex fun i => HP.fact (p i) (HP.star (A i))]) := fun m S h => ⟨(), S, trivial, sats_one ⟨i, hp, h⟩, fun _ h => h⟩
theorem Take.of_get {α : Type} {f : α → HP} : ∀ {l : List α} {i : Nat} {x : α}, l[i]? = some x → Take (f x) (l.map f) ((l.eraseIdx i).map f)
  | y :: l, 0, x, h => by simp at h; subst h; exact .here
  | y :: l, i + 1, x, h => .there (Take.of_get (by simpa using h))
theorem Take.of_set {α : Type} {f : α → HP} : ∀ {l : List α} {i : Nat} (x : α), i < l.length → Take (f x) ((l.set i x).map f) ((l.eraseIdx i).map f)
  | y :: l, 0, x, h => .here
  | y :: l, i + 1, x, h => .there (Take.of_set x (by simpa using h))
theorem Tn.perm {M M' : List HP} (h : M.Perm M') : Tn M (fun _ : Unit => True) (fun _ => M') := fun m S hs => ⟨(), S, trivial, sats_perm h hs, fun _ h => h⟩
theorem Tn.trans {ι κ : Type} {M : List HP} {P : ι → Prop} {M' : ι → List HP} {Q : ι → κ → Prop} {M'' : ι → κ → List HP} (h : Tn M P M') (h' : ∀ i, P i → Tn (M' i) (Q i) (M'' i)) : Tn M (fun p : ι × κ => P p.1 ∧ Q p.1 p.2) (fun p => M'' p.1 p.2) := fun m S hs => by
  obtain ⟨i, S1, hP, h1, hs1⟩ := h m S hs
  obtain ⟨j, S2, hQ, h2, hs2⟩ := h' i hP m S1 h1
  exact ⟨(i, j), S2, ⟨hP, hQ⟩, h2, fun x hx => hs1 x (hs2 x hx)⟩
theorem Tn.frame {ι : Type} {M F : List HP} {P : ι → Prop} {M' : ι → List HP} (h : Tn M P M') : Tn (M ++ F) P (fun i => M' i ++ F) := fun m S hs => by
  obtain ⟨S1, S2, h1, h2, hd, hu⟩ := sats_append.1 hs
  obtain ⟨i, S1', hP, h1', hsub⟩ := h m S1 h1
  exact ⟨i, _, hP, sats_append.2 ⟨S1', S2, h1', h2, fun g hg => hd g (hsub g hg), fun _ => Iff.rfl⟩, fun g hg => (hu g).2 (hg.imp (hsub g) id)⟩
/-! ### calls whose outcome is told, ends up to the order of the parts -/
theorem St.some {q : Bool} {w0 w : World} {S0 : Nat → Prop} {L F M : List HP} (hs : Subs M L F) (h : St q w0 S0 L w) : St q w0 S0 M w := by
  obtain ⟨S, hS, hin⟩ := (h.perm hs.perm).sat
  obtain ⟨S1, S2, h1, h2, hd, hu⟩ := sats_append.1 hS
  exact ⟨h.same, h.os, h.tape, h.output, h.size, h.old, S1, h1, fun g hg => hin g ((hu g).2 (.inl hg))⟩
section
variable {X : Fx} {ops : Array Oper} {cf : Nat → Cls} {k : List Item} {i : Nat} {is : List Nat} {l : List Oper} {loc loc' : List Value} {tmp tmp' : List (Nat × Value)} {L L' F M : List HP}
  {d : Option Tmp} {ty : TypeId} {pos : String} {aft : Array Edge} {gd : Option (Nat × Bool)}
abbrev Fd (P : Program) (f : FuncId) (args : Array Value) (L : List HP) (v : Value) (L' : List HP) : Prop := Fn P f args L fun u M => u = v ∧ M = L'
theorem x_callD {c : Operand} {xs : List Operand} {tys : Array TypeId} {f : Nat} {first caps ags : List Value} {La Lb N : List HP} {v : Value} [Body X.P f]
    (hc : sv loc tmp c = some (.func (.func f) first.toArray caps.toArray)) (ha : svs loc tmp xs = some ags) (hf : Fd X.P f (first ++ ags ++ caps).toArray La v Lb) (hs : Subs La L F) (hN : App Lb F N)
    (hp : Pt loc tmp d v loc' tmp') (h : EO X ops cf k is l loc' tmp' N)
    (hg : gdv ops loc tmp gd = some true := by rfl) (hd : dOK X.n d = true := by rfl) (hcl : cf i = .any := by rfl) (hq : X.q = false := by rfl) :
    EO X ops cf k (i :: is) (⟨d, .call ⟨.value c, xs.toArray, tys⟩, ty, pos, aft, gd⟩ :: l) loc tmp L :=
  x_call hc ha hf hs (fun u M ⟨e1, e2⟩ => by subst e1 e2; exact ⟨_, _, hp, hN.eq ▸ h⟩) hg hd hcl hq
theorem E.some (hs : Subs M L F) (h : E X k loc tmp M) : E X k loc tmp L := fun w0 S0 a w hr hst => h w0 S0 a w hr (hst.some hs)
theorem EO.some (hs : Subs M L F) (h : EO X ops cf k is l loc tmp M) : EO X ops cf k is l loc tmp L := fun hl w0 S0 a w hr hst => h hl w0 S0 a w hr (hst.some hs)
theorem e_ret' {ts : List Nat} {vs : List Value} (hts : X.fn.results = (ts.map ResultVar.tmp).toArray) (hv : svs loc tmp (ts.map Operand.tmp) = Option.some vs) (h : ∃ M F, X.R (packV vs) M ∧ Subs M L F) : E X (.code .ret :: k) loc tmp L := by
  obtain ⟨M, F, h, hs⟩ := h
  exact E.some hs (e_ret hts hv h)
theorem e_end' {ts : List Nat} {vs : List Value} (hts : X.fn.results = (ts.map ResultVar.tmp).toArray) (hv : svs loc tmp (ts.map Operand.tmp) = Option.some vs) (h : ∃ M F, X.R (packV vs) M ∧ Subs M L F) : E X [] loc tmp L := by
  obtain ⟨M, F, h, hs⟩ := h
  exact E.some hs (e_end hts hv h)
end
/-! ### bits -/
def lim : IntKind → Nat
  | .i8 => 128 | .i16 => 32768 | .i32 => 2147483648 | .i64 => 9223372036854775808
  | .u8 => 256 | .u16 => 65536 | .u32 => 4294967296 | .u64 => 18446744073709551616
theorem wrap_lt {K : IntKind} {a : Nat} (h : a < lim K) : K.wrap (a : Int) = a := by
  cases K <;> simp only [IntKind.wrap, IntKind.bits, IntKind.signed, lim] at h ⊢ <;> simp <;> omega
theorem lt_of_wrap {K : IntKind} {a : Nat} (h : K.wrap (a : Int) = a) : a < lim K := by
  cases K <;> simp only [IntKind.wrap, IntKind.bits, IntKind.signed, lim] at h ⊢ <;> simp at h <;> omega
theorem lim_bits (K : IntKind) : lim K ≤ 2 ^ K.bits ∧ ∃ n, lim K = 2 ^ n := by
  cases K <;> simp only [lim, IntKind.bits] <;> refine ⟨by decide, ?_⟩
  · exact ⟨7, rfl⟩
  · exact ⟨15, rfl⟩
  · exact ⟨31, rfl⟩
  · exact ⟨63, rfl⟩
  · exact ⟨8, rfl⟩
  · exact ⟨16, rfl⟩
  · exact ⟨32, rfl⟩
  · exact ⟨64, rfl⟩
theorem ofInt_nat (n a : Nat) : BitVec.ofInt n (a : Int) = BitVec.ofNat n a := by
  apply BitVec.eq_of_toNat_eq; simp
section
variable {K : IntKind} {p q : Int} {a b : Nat}
theorem bAndN [hp : NatV p a] [hq : NatV q b] (ha : K.wrap (a : Int) = a) (hb : K.wrap (b : Int) = b) : binI .and K p q = some (.int K ((a &&& b : Nat) : Int)) := by
  have ha := lt_of_wrap ha; have hb := lt_of_wrap hb; have hl := lim_bits K
  have : (a &&& b) < lim K := Nat.lt_of_le_of_lt Nat.and_le_left ha
  rw [hp.h, hq.h]
  simp only [binI, ofInt_nat, BitVec.toNat_and, BitVec.toNat_ofNat]
  rw [Nat.mod_eq_of_lt (by omega), Nat.mod_eq_of_lt (by omega), wrap_lt this]
theorem bOrN [hp : NatV p a] [hq : NatV q b] (ha : K.wrap (a : Int) = a) (hb : K.wrap (b : Int) = b) : binI .or K p q = some (.int K ((a ||| b : Nat) : Int)) := by
  have ha := lt_of_wrap ha; have hb := lt_of_wrap hb; have hl := lim_bits K
  have : (a ||| b) < lim K := by obtain ⟨n, hn⟩ := hl.2; exact hn ▸ Nat.or_lt_two_pow (hn ▸ ha) (hn ▸ hb)
  rw [hp.h, hq.h]
  simp only [binI, ofInt_nat, BitVec.toNat_or, BitVec.toNat_ofNat]
  rw [Nat.mod_eq_of_lt (by omega), Nat.mod_eq_of_lt (by omega), wrap_lt this]
theorem bXorN [hp : NatV p a] [hq : NatV q b] (ha : K.wrap (a : Int) = a) (hb : K.wrap (b : Int) = b) : binI .xor K p q = some (.int K ((a ^^^ b : Nat) : Int)) := by
  have ha := lt_of_wrap ha; have hb := lt_of_wrap hb; have hl := lim_bits K
  have : (a ^^^ b) < lim K := by obtain ⟨n, hn⟩ := hl.2; exact hn ▸ Nat.xor_lt_two_pow (hn ▸ ha) (hn ▸ hb)
  rw [hp.h, hq.h]
  simp only [binI, ofInt_nat, BitVec.toNat_xor, BitVec.toNat_ofNat]
  rw [Nat.mod_eq_of_lt (by omega), Nat.mod_eq_of_lt (by omega), wrap_lt this]
theorem wm8 (a : Nat) : IntKind.u8.wrap (a : Int) = ((a % 256 : Nat) : Int) := by simp [IntKind.wrap, IntKind.bits, IntKind.signed]
theorem wm16 (a : Nat) : IntKind.u16.wrap (a : Int) = ((a % 65536 : Nat) : Int) := by simp [IntKind.wrap, IntKind.bits, IntKind.signed]
theorem wm32 (a : Nat) : IntKind.u32.wrap (a : Int) = ((a % 4294967296 : Nat) : Int) := by simp [IntKind.wrap, IntKind.bits, IntKind.signed]
end
section
variable {X : Fx} {ops : Array Oper} {cf : Nat → Cls} {k : List Item} {i : Nat} {is : List Nat} {l : List Oper} {loc loc' : List Value} {tmp tmp' : List (Nat × Value)} {L : List HP}
  {d : Option Tmp} {ty : TypeId} {pos : String} {aft : Array Edge} {gd : Option (Nat × Bool)}
theorem x_shlN {T T' : Nat} {x y : Operand} {K K' : IntKind} {p q r : Int} {a b : Nat} [hpa : NatV p a] [hqb : NatV q b] (hx : sv loc tmp x = some (.int K p)) (hy : sv loc tmp y = some (.int K' q)) (hb : b ≤ K.bits) (hw : K.wrap ((a * 2 ^ b : Nat) : Int) = r) (hp : Pt loc tmp d (.int K r) loc' tmp') (h : EO X ops cf k is l loc' tmp' L)
    (hg : gdv ops loc tmp gd = some true := by rfl) (hd : dOK X.n d = true := by rfl) : EO X ops cf k (i :: is) (⟨d, .binOp .shl T x y T', ty, pos, aft, gd⟩ :: l) loc tmp L := by
  subst hw
  refine x_shl hx hy (by rw [hqb.h]; omega) ?_ h hg hd
  rw [hpa.h, hqb.h, show min (Int.toNat (b : Int)) K.bits = b by simp; omega]
  simpa using hp
theorem x_shrN {T T' : Nat} {x y : Operand} {K K' : IntKind} {p q : Int} {a b : Nat} [hpa : NatV p a] [hqb : NatV q b] (hx : sv loc tmp x = some (.int K p)) (hy : sv loc tmp y = some (.int K' q)) (hb : b ≤ K.bits) (hp : Pt loc tmp d (.int K ((a / 2 ^ b : Nat) : Int)) loc' tmp') (h : EO X ops cf k is l loc' tmp' L)
    (hg : gdv ops loc tmp gd = some true := by rfl) (hd : dOK X.n d = true := by rfl) : EO X ops cf k (i :: is) (⟨d, .binOp .shr T x y T', ty, pos, aft, gd⟩ :: l) loc tmp L := by
  refine x_shr hx hy (by rw [hqb.h]; omega) ?_ h hg hd
  rw [hpa.h, hqb.h, show min (Int.toNat (b : Int)) K.bits = b by simp; omega]
  have : Int.fdiv (a : Int) (2 ^ b) = ((a / 2 ^ b : Nat) : Int) := by
    rw [Int.fdiv_eq_ediv_of_nonneg _ (by exact Int.le_of_lt (Int.pow_pos (by decide)))]; simp
  rw [this]; exact hp
theorem x_convN {S T : Nat} {x : Operand} {J K : IntKind} {p r : Int} {a : Nat} [IntTy X.P S J] [IntTy X.P T K] [hpa : NatV p a] (hx : sv loc tmp x = some (.int J p)) (hw : K.wrap (a : Int) = r) (hp : Pt loc tmp d (.int K r) loc' tmp') (h : EO X ops cf k is l loc' tmp' L)
    (hg : gdv ops loc tmp gd = some true := by rfl) (hd : dOK X.n d = true := by rfl) : EO X ops cf k (i :: is) (⟨d, .convert S T x, ty, pos, aft, gd⟩ :: l) loc tmp L :=
  x_conv hx (by rw [hpa.h]; exact hw) hp h hg hd
end
/-! ### structs and arrays that are written down -/
inductive SetR : List Value → Nat → List Value → List Value → Prop where
  | nil {cs : List Value} {o : Nat} : SetR cs o [] cs
  | cons {cs cs1 cs2 : List Value} {o : Nat} {u : Value} {us : List Value} : SetL cs o u cs1 → SetR cs1 (o + 1) us cs2 → SetR cs o (u :: us) cs2
inductive Bld (pl : List (Nat × Nat)) : List Value → List (Nat × Value) → List Value → Prop where
  | nil {cs : List Value} : Bld pl cs [] cs
  | one {cs cs1 cs2 : List Value} {i off : Nat} {v : Value} {rest : List (Nat × Value)} : pl[i]? = some (off, 1) → v.cells = #[v] → SetL cs off v cs1 → Bld pl cs1 rest cs2 → Bld pl cs ((i, v) :: rest) cs2
  | agg {cs cs1 cs2 us : List Value} {i off n : Nat} {rest : List (Nat × Value)} : pl[i]? = some (off, n) → Nat.beq us.length n = true → Nat.blt 0 us.length = true → SetR cs off us cs1 → Bld pl cs1 rest cs2 → Bld pl cs ((i, .agg us.toArray) :: rest) cs2
theorem SetL.lt {cs cs' : List Value} {o : Nat} {u : Value} (h : SetL cs o u cs') : o < cs.length ∧ cs' = cs.set o u := by
  obtain ⟨h1, h2⟩ := h.eq
  exact ⟨nth_some h1, by rw [h2, setL_set]⟩
theorem SetR.run {cs cs' us : List Value} {o : Nat} (h : SetR cs o us cs') : cs'.length = cs.length ∧ (us ≠ [] → o + us.length ≤ cs.length) ∧ ∀ b k, b + k = o → (us.zipIdx k).foldl (fun (a : Array Value) (p : Value × Nat) => a.setIfInBounds (b + p.2) p.1) cs.toArray = cs'.toArray := by
  induction h with
  | nil => exact ⟨rfl, fun h => absurd rfl h, fun _ _ _ => rfl⟩
  | @cons cs cs1 cs2 o u us h1 h2 ih =>
    obtain ⟨hlt, rfl⟩ := h1.lt
    obtain ⟨i1, i2, i3⟩ := ih
    refine ⟨by simpa using i1, fun _ => ?_, fun b k hb => ?_⟩
    · by_cases hu : us = []
      · subst hu; simp; omega
      · have := i2 hu; simp at this ⊢; omega
    · have := i3 b (k + 1) (by omega)
      rw [List.zipIdx_cons, List.foldl_cons]
      simp only [hb]
      rw [← this]
      simp
theorem Bld.fill {pl : List (Nat × Nat)} {f : Nat → Option (Nat × Nat)} (hf : ∀ i x, pl[i]? = some x → f i = some x) {cs cs' : List Value} {parts : List (Nat × Value)} (h : Bld pl cs parts cs') : Instr.fill f cs.toArray parts = some cs'.toArray := by
  induction h with
  | nil => rfl
  | @one cs cs1 cs2 i off v rest hp hv hs hb ih =>
    obtain ⟨hlt, rfl⟩ := hs.lt
    simp only [Instr.fill, hf _ _ hp, hv]
    have : ¬ (off + 1 > cs.length) := by omega
    simp [this] at ih ⊢
    exact ih
  | @agg cs cs1 cs2 us i off n rest hp hn h0 hs hb ih =>
    have hn := Nat.eq_of_beq_eq_true hn
    obtain ⟨h1, h2, h3⟩ := hs.run
    have hc : (Value.agg us.toArray).cells = us.toArray := rfl
    have hle : ¬ (off + us.length > cs.length) := by
      have := h2 (fun e => by subst e; cases h0); omega
    simp only [Instr.fill, hf _ _ hp, hc]
    have h3 := h3 off 0 (by omega)
    have e1 : (decide (us.toArray.size ≠ n) || decide (off + us.toArray.size > cs.toArray.size)) = false := by
      simp only [List.size_toArray, hn, Bool.or_eq_false_iff, decide_eq_false_iff_not]
      exact ⟨fun h => h rfl, by omega⟩
    have e2 : us.toArray.zipIdx.foldl (fun (cs : Array Value) (p : Value × Nat) => cs.setIfInBounds (off + p.2) p.1) cs.toArray = cs1.toArray := by
      rw [← h3]; simp
    simp only [e1, e2]
    exact ih
theorem placesOf_struct {P : Program} {T : Nat} {fs : Array Field} {pl : List (Nat × Nat)} (hu : P.underlying T = some (.struct fs)) (h : placesOf P T = some pl) : fs.toList.mapM (fun f => (P.info? f.type).map fun i => (f.offset, i.size)) = some pl := by
  simpa [placesOf, hu] using h
theorem run_bld {P : Program} {T : Nat} {pl : List (Nat × Nat)} {z cs : List Value} {parts : Array (Nat × Value)} [hb : BldTy P T pl z] (h : Bld pl z parts.toList cs) (w : World) : (Instr.build T parts).run P w = .ok (.agg cs.toArray) w := by
  have hz := hb.hz
  have hp := hb.hp
  refine run_build w T parts _ ?_
  cases hi : P.info? T with
  | none => rw [hi] at hz; cases hz
  | some it =>
    cases hzz : it.zero with
    | none => rw [hi] at hz; simp [hzz] at hz
    | some zv =>
      rw [hi] at hz
      simp only [Option.bind_some, hzz, Option.map_some, Option.some.injEq] at hz
      have hzc : zv.cells = z.toArray := by apply Array.ext'; simpa using hz
      cases hu : P.underlying T with
      | none => simp [placesOf, hu] at hp
      | some d =>
        cases d <;> try (simp [placesOf, hu] at hp; done)
        case struct fs =>
          have hpl := placesOf_struct hu hp
          have hf := h.fill (f := fun i => pl.toArray[i]?) (fun i x hx => by simpa using hx)
          simp only [Program.built, hi, hu, hzz, hpl, hzc]
          exact hf
        case array n e =>
          simp only [placesOf, hu] at hp
          cases hie : P.info? e with
          | none => rw [hie] at hp; cases hp
          | some ie =>
            rw [hie] at hp
            simp only [Option.map_some, Option.some.injEq] at hp
            have hf := h.fill (f := fun i => some (i * ie.size, ie.size)) (fun i x hx => by
              rw [← hp] at hx
              simp only [List.getElem?_map, List.getElem?_range'] at hx
              cases hr : (List.range n)[i]? with
              | none => rw [hr] at hx; cases hx
              | some j =>
                rw [hr] at hx
                have := List.getElem?_eq_some_iff.1 hr
                obtain ⟨h1, h2⟩ := this
                simp at h2
                subst h2
                simpa using hx)
            simp only [Program.built, hi, hu, hzz, hie, hzc]
            exact hf
section
variable {X : Fx} {ops : Array Oper} {cf : Nat → Cls} {k : List Item} {i : Nat} {is : List Nat} {l : List Oper} {loc loc' : List Value} {tmp tmp' : List (Nat × Value)} {L L' F M : List HP}
  {d : Option Tmp} {ty : TypeId} {pos : String} {aft : Array Edge} {gd : Option (Nat × Bool)}
theorem x_bld {T : Nat} {pl : List (Nat × Nat)} {z cs : List Value} {ps : List (Nat × Operand)} {vs : List Value} [BldTy X.P T pl z] (hv : svs loc tmp (ps.map (·.2)) = some vs) (hf : Bld pl z ((ps.map (·.1)).zip vs) cs)
    (hp : Pt loc tmp d (.agg cs.toArray) loc' tmp') (h : EO X ops cf k is l loc' tmp' L)
    (hg : gdv ops loc tmp gd = some true := by rfl) (hd : dOK X.n d = true := by rfl) : EO X ops cf k (i :: is) (⟨d, .build T ps.toArray, ty, pos, aft, gd⟩ :: l) loc tmp L :=
  x_pure hg (fun a hrl w => by
    have hps : (ps.toArray.map fun (i, x) => (i, a.eval x)).toList = (ps.map (·.1)).zip vs := by
      rw [← hrl.evs hv]
      simp only [List.map_toArray]
      clear hf hv
      induction ps with
      | nil => rfl
      | cons p ps ih => simp only [List.map_cons, List.zip_cons_cons]; rw [ih]
    have := run_bld (P := X.P) (T := T) (parts := ps.toArray.map fun (i, x) => (i, a.eval x)) (hps ▸ hf) w
    simp only [execOp, Sem.run_bind, this, Result.andThen_ok, Sem.run_pure]) hp hd h
theorem x_boxA {T : Nat} {x : Operand} {vs : List Value} (hx : sv loc tmp x = some (.agg vs.toArray)) (h : ∀ g, ∃ loc' tmp', Pt loc tmp d (.pointer (some ⟨g, 0, none⟩)) loc' tmp' ∧ EO X ops cf k is l loc' tmp' (Cells g T vs :: L))
    (hg : gdv ops loc tmp gd = some true := by rfl) (hd : dOK X.n d = true := by rfl) (hcl : (cf i).news = true := by rfl) (hq : X.q = false := by rfl) : EO X ops cf k (i :: is) (⟨d, .box T x, ty, pos, aft, gd⟩ :: l) loc tmp L :=
  x_box hx (by simpa [Value.cells] using h) hg hd hcl hq
abbrev Fe {ι : Type} (P : Program) (f : FuncId) (args : Array Value) (L : List HP) (PI : ι → Prop) (V : ι → Value) (LL : ι → List HP) : Prop := Fn P f args L fun u M => ∃ i, PI i ∧ u = V i ∧ M = LL i
theorem x_callE {ι : Type} {PI : ι → Prop} {V : ι → Value} {LL N : ι → List HP} {c : Operand} {xs : List Operand} {tys : Array TypeId} {f : Nat} {first caps ags : List Value} {La : List HP} [Body X.P f]
    (hc : sv loc tmp c = some (.func (.func f) first.toArray caps.toArray)) (ha : svs loc tmp xs = some ags) (hf : Fe X.P f (first ++ ags ++ caps).toArray La PI V LL) (hs : Subs La L F) (hN : ∀ i, App (LL i) F (N i))
    (h : ∀ j, PI j → ∃ loc' tmp', Pt loc tmp d (V j) loc' tmp' ∧ EO X ops cf k is l loc' tmp' (N j))
    (hg : gdv ops loc tmp gd = some true := by rfl) (hd : dOK X.n d = true := by rfl) (hcl : cf i = .any := by rfl) (hq : X.q = false := by rfl) :
    EO X ops cf k (i :: is) (⟨d, .call ⟨.value c, xs.toArray, tys⟩, ty, pos, aft, gd⟩ :: l) loc tmp L :=
  x_call hc ha hf hs (fun u M ⟨j, hP, e1, e2⟩ => by subst e1 e2; rw [(hN j).eq]; exact h j hP) hg hd hcl hq
theorem SetL.app {z u : Value} {b : List Value} : ∀ (a : List Value), SetL (a ++ z :: b) a.length u (a ++ u :: b)
  | [] => .zero
  | _ :: a => .succ (SetL.app a)
theorem cells_one {u : Value} (h : u.oneCell' = true) : u.cells = #[u] := by cases u <;> first | rfl | (simp [Value.oneCell'] at h)
theorem bld_seq {pl : List (Nat × Nat)} {N : Nat} (hpl : ∀ i, i < N → pl[i]? = some (i, 1)) : ∀ (us zs a : List Value), zs.length = us.length → a.length + us.length ≤ N → us.all (·.oneCell') = true → Bld pl (a ++ zs) ((List.range' a.length us.length).zip us) (a ++ us)
  | [], zs, a, hz, _, _ => by
    have : zs = [] := List.eq_nil_of_length_eq_zero hz
    subst this; exact .nil
  | u :: us, [], a, hz, _, _ => by cases hz
  | u :: us, z :: zs, a, hz, hN, h1 => by
    simp only [List.all_cons, Bool.and_eq_true] at h1
    rw [List.length_cons, List.range'_succ, List.zip_cons_cons]
    refine .one (hpl _ (by simp at hN; omega)) (cells_one h1.1) (SetL.app a) ?_
    have := bld_seq hpl us zs (a ++ [u]) (by simpa using hz) (by simp at hN ⊢; omega) h1.2
    simpa using this
theorem x_build1 {t e b n : Nat} {z : Value} {ps : List (Nat × Operand)} {vs : List Value} [SlE X.P t e 1 b [z]] (hv : svs loc tmp (ps.map (·.2)) = some vs)
    (hi : ps.map (·.1) = List.range' 0 n) (hl : vs.length = n) (h1 : vs.all (·.oneCell') = true) (hn : Nat.ble n 16777216 = true) (hpos : Nat.beq n 0 = false)
    (h : ∀ g, ∃ loc' tmp', Pt loc tmp d (.slice (some ⟨g, 0, none⟩) n n) loc' tmp' ∧ EO X ops cf k is l loc' tmp' (Own (some ⟨g, 0, none⟩) n e 1 n vs :: L))
    (hg : gdv ops loc tmp gd = some true := by rfl) (hd : dOK X.n d = true := by rfl) (hcl : (cf i).news = true := by rfl) (hq : X.q = false := by rfl) :
    EO X ops cf k (i :: is) (⟨d, .buildSlice t n ps.toArray, ty, pos, aft, gd⟩ :: l) loc tmp L := by
  refine x_build (sz := 1) (z := [z]) hv ?_ (by simpa using hn) hn (by simpa using hpos) (by omega) h hg hd hcl hq
  have hb := (bld_seq (pl := (List.range n).map fun i => (i, 1)) (N := n) (fun i hi => by simp [List.getElem?_range hi]) vs (List.replicate n z) [] (by simp [hl]) (by simp [hl]) h1).fill (f := fun i => some (i * 1, 1)) (fun i x hx => by
    simp only [List.getElem?_map] at hx
    cases hr : (List.range n)[i]? with
    | none => rw [hr] at hx; cases hx
    | some j =>
      obtain ⟨h1, h2⟩ := List.getElem?_eq_some_iff.1 hr
      simp at h2; subst h2
      rw [hr] at hx; simpa using hx)
  rw [hi]
  simp only [List.nil_append, List.length_nil, hl] at hb
  rw [← hb]
  congr 1
  apply Array.ext'
  simp only [Array.toList_map, Array.toList_range, Nat.mul_one, List.length_cons, List.length_nil, Nat.zero_add, Nat.mod_one]
  apply List.ext_getElem (by simp)
  intro j h1 h2
  simp
theorem x_atN {t e sz g o n c a : Nat} {K : IntKind} {x y : Operand} {p : Int} [hv : NatV p a] [SlTy X.P t e sz] (hx : sv loc tmp x = some (.slice (some ⟨g, o, none⟩) n c)) (hy : sv loc tmp y = some (.int K p)) (hn : a < n)
    (hp : Pt loc tmp d (.pointer (some ⟨g, o + a * sz, none⟩)) loc' tmp') (h : EO X ops cf k is l loc' tmp' L)
    (hg : gdv ops loc tmp gd = some true := by rfl) (hd : dOK X.n d = true := by rfl) : EO X ops cf k (i :: is) (⟨d, .indexAddr t x y, ty, pos, aft, gd⟩ :: l) loc tmp L :=
  x_at hx hy (by rw [hv.h]; omega) (by rw [hv.h]; omega) (by rw [hv.h]; exact hp) h hg hd
theorem x_atArrN {t e sz g o n a : Nat} {K : IntKind} {x y : Operand} {p : Int} [hv : NatV p a] [ArrTy X.P t n e sz] (hx : sv loc tmp x = some (.pointer (some ⟨g, o, none⟩))) (hy : sv loc tmp y = some (.int K p)) (hn : a < n)
    (hp : Pt loc tmp d (.pointer (some ⟨g, o + a * sz, none⟩)) loc' tmp') (h : EO X ops cf k is l loc' tmp' L)
    (hg : gdv ops loc tmp gd = some true := by rfl) (hd : dOK X.n d = true := by rfl) : EO X ops cf k (i :: is) (⟨d, .indexAddr t x y, ty, pos, aft, gd⟩ :: l) loc tmp L :=
  x_atArr hx hy (by rw [hv.h]; omega) (by rw [hv.h]; omega) (by rw [hv.h]; exact hp) h hg hd
theorem E.nilOwn {e sz : Nat} (h : E X k loc tmp (Own none 0 e sz 0 [] :: L)) : E X k loc tmp L := fun w0 S0 a w hr hs =>
  h w0 S0 a w hr ⟨hs.same, hs.os, hs.tape, hs.output, hs.size, hs.old, by
    obtain ⟨S, hS, hin⟩ := hs.sat
    refine ⟨S, ⟨fun _ => False, S, ?_, hS, fun _ h => h.elim, fun g => by simp⟩, hin⟩
    exact ⟨by simp, Nat.le_refl _, Nat.zero_le _, .inl ⟨rfl, rfl, fun _ h => h⟩⟩⟩
end
section
variable {X : Fx} {ops : Array Oper} {cf : Nat → Cls} {k : List Item} {i : Nat} {is : List Nat} {l : List Oper} {loc loc' : List Value} {tmp tmp' : List (Nat × Value)} {L L' F M : List HP}
  {d : Option Tmp} {ty : TypeId} {pos : String} {aft : Array Edge} {gd : Option (Nat × Bool)}
theorem x_app1 {t e b n m c c' g o : Nat} {z : Value} {x y : Operand} {A : Option Addr} {vs news : List Value} [SlE X.P t e 1 b [z]] (hx : sv loc tmp x = some (.slice A n c)) (hy : sv loc tmp y = some (.slice (some ⟨g, o, none⟩) m c'))
    (ht : Take (Own A c e 1 n vs) L F) (hr : CellRow F g o news) (hm : news.length = m) (h1 : news.all (·.oneCell') = true) (h63 : n + m ≤ 1000000000000) (hby : (n + m) * b ≤ 140737488355328)
    (h : ∀ A' c', ∃ loc' tmp', Pt loc tmp d (.slice A' (n + m) c') loc' tmp' ∧ EO X ops cf k is l loc' tmp' (Own A' c' e 1 (n + m) (vs ++ news) :: F))
    (hg : gdv ops loc tmp gd = some true := by rfl) (hd : dOK X.n d = true := by rfl) (hcl : cf i = .any := by rfl) (hq : X.q = false := by rfl) :
    EO X ops cf k (i :: is) (⟨d, .call ⟨.builtin .append, #[x, y], #[t, t]⟩, ty, pos, aft, gd⟩ :: l) loc tmp L :=
  x_app hx hy ht ⟨by omega, .inr ⟨g, o, rfl, hr⟩⟩ (fun h => by cases h) (fun u hu => List.all_eq_true.1 h1 u hu) rfl (by decide) (by simp only [maxLen]; omega) hby h hg hd hcl hq
end
/-! ### a struct is stored -/
theorem SetR.ovw {cs cs' us : List Value} {o : Nat} (h : SetR cs o us cs') (hne : us ≠ []) : cs' = Proofs.YtppkiiomedembaaGreatDoor.ovw cs o us := by
  have hl := h.run.2.1 hne
  have hl' := h.run.1
  have hget : ∀ i, cs'[i]? = if o ≤ i ∧ i < o + us.length then us[i - o]? else cs[i]? := by
    clear hne hl hl'
    induction h with
    | nil => intro i; rw [if_neg (by simp)]
    | @cons cs cs1 cs2 o u us h1 h2 ih =>
      intro i
      obtain ⟨hlt, rfl⟩ := h1.lt
      rw [ih i]
      by_cases hi : i = o
      · subst hi
        rw [if_neg (by omega), if_pos (by simp)]
        simp [hlt]
      · by_cases hi2 : o + 1 ≤ i ∧ i < o + 1 + us.length
        · rw [if_pos hi2, if_pos (by simp; omega), show i - o = (i - (o + 1)) + 1 by omega]; simp
        · rw [if_neg hi2, if_neg (by simp; omega), List.getElem?_set_ne (by omega)]
  apply List.ext_getElem?
  intro i
  rw [hget i]
  unfold Proofs.YtppkiiomedembaaGreatDoor.ovw
  by_cases h1 : i < o
  · rw [if_neg (by omega), List.append_assoc, List.getElem?_append_left (by simp; omega), List.getElem?_take_of_lt h1]
  · by_cases h2 : i < o + us.length
    · rw [if_pos (by omega), List.append_assoc, List.getElem?_append_right (by simp; omega), List.getElem?_append_left (by simp; omega)]
      congr 1; simp; omega
    · rw [if_neg (by omega), List.append_assoc, List.getElem?_append_right (by simp; omega), List.getElem?_append_right (by simp; omega), List.getElem?_drop]
      congr 1; simp; omega
inductive PutA : List HP → Nat → Nat → List Value → List HP → Prop where
  | here {g o : Nat} {t : TypeId} {cs cs' us : List Value} {L : List HP} : SetR cs o us cs' → PutA (Cells g t cs :: L) g o us (Cells g t cs' :: L)
  | there {g o : Nat} {us : List Value} {A : HP} {L L' : List HP} : PutA L g o us L' → PutA (A :: L) g o us (A :: L')
theorem PutA.putR {L L' : List HP} {g o : Nat} {us : List Value} (h : PutA L g o us L') (hne : us ≠ []) : PutR L g o us L' := by
  induction h with
  | here hs => rw [hs.ovw hne]; exact .cells (hs.run.2.1 hne)
  | there _ ih => exact .there (ih hne)
section
variable {X : Fx} {ops : Array Oper} {cf : Nat → Cls} {k : List Item} {i : Nat} {is : List Nat} {l : List Oper} {loc loc' : List Value} {tmp tmp' : List (Nat × Value)} {L L' F M : List HP}
  {d : Option Tmp} {ty : TypeId} {pos : String} {aft : Array Edge} {gd : Option (Nat × Bool)}
theorem x_storeA {T m g o : Nat} {x y : Operand} {us : List Value} [AggSz X.P T m] (hx : sv loc tmp x = some (.pointer (some ⟨g, o, none⟩))) (hy : sv loc tmp y = some (.agg us.toArray)) (hm : us.length = m) (h0 : Nat.blt 0 m = true) (hu : us.all (·.oneCell') = true) (hw : PutA L g o us L') (h : EO X ops cf k is l loc tmp L')
    (hg : gdv ops loc tmp gd = some true := by rfl) (hcl : cf i = .any := by rfl) (hq : X.q = false := by rfl) : EO X ops cf k (i :: is) (⟨none, .store T x y, ty, pos, aft, gd⟩ :: l) loc tmp L :=
  x_any (Rv := fun _ L'' => L'' = L') hg hcl (fun a hr w0 S0 w hs n => by
    obtain ⟨dd, j, _, hdd, hj, hz⟩ := AggSz.out (P := X.P) (T := T) (n := m)
    have hne : us ≠ [] := fun e => by subst e; simp at hm; subst hm; cases h0
    obtain ⟨cur, t, hgc, hl, hs'⟩ := (hw.putR hne).st (hs.wat n)
    have hcs : (Value.agg us.toArray).cells = us.toArray := rfl
    have hst := run_storeCells_at X.P g o t us 0 cur (wat w n) hgc (by simpa using hl) (fun v hv => List.all_eq_true.1 hu v hv)
    simp only [Nat.add_zero] at hst
    have e : Proofs.YtppkiiomedembaaGreatDoor.ovw cur.toList o us = cur.toList.take o ++ us ++ cur.toList.drop (o + us.length) := rfl
    rw [e] at hs'
    have hrun : (Instr.storeAt T (.pointer (some ⟨g, o, none⟩)) (.agg us.toArray)).run X.P (wat w n) = (storeCells ⟨g, o, none⟩ us).run X.P (wat w n) := by
      simp [Instr.storeAt, Instr.sureAddr, storeVar, sizeOf, typeInfo, hj, hz, hcs, hm]
    simp [RunN, execOp, hr.ev hx, hr.ev hy, hrun, hst]
    rw [hq]
    simpa using hs') rfl (fun v L'' e => by subst e; exact ⟨_, _, .none, h⟩)
end
/-! ### which operation comes next (asked ahead of a rule, for speed) -/
section
variable {X : Fx} {ops : Array Oper} {cf : Nat → Cls} {k : List Item} {i : Nat} {is : List Nat} {l : List Oper} {loc : List Value} {tmp : List (Nat × Value)} {L : List HP}
  {d : Option Tmp} {ty : TypeId} {pos : String} {aft : Array Edge} {gd : Option (Nat × Bool)} {x y z : Operand} {S T j : Nat} {u : UnOp} {ps : Array (Nat × Operand)} {ox oy oz : Option Operand} {xs : Array Operand} {tys : Array TypeId}
theorem is_move (h : EO X ops cf k (i :: is) (⟨d, .move x, ty, pos, aft, gd⟩ :: l) loc tmp L) : EO X ops cf k (i :: is) (⟨d, .move x, ty, pos, aft, gd⟩ :: l) loc tmp L := h
theorem is_assign (h : EO X ops cf k (i :: is) (⟨d, .assign x, ty, pos, aft, gd⟩ :: l) loc tmp L) : EO X ops cf k (i :: is) (⟨d, .assign x, ty, pos, aft, gd⟩ :: l) loc tmp L := h
theorem is_nilCheck (h : EO X ops cf k (i :: is) (⟨d, .nilCheck x, ty, pos, aft, gd⟩ :: l) loc tmp L) : EO X ops cf k (i :: is) (⟨d, .nilCheck x, ty, pos, aft, gd⟩ :: l) loc tmp L := h
theorem is_fieldAddr (h : EO X ops cf k (i :: is) (⟨d, .fieldAddr T x j, ty, pos, aft, gd⟩ :: l) loc tmp L) : EO X ops cf k (i :: is) (⟨d, .fieldAddr T x j, ty, pos, aft, gd⟩ :: l) loc tmp L := h
theorem is_load (h : EO X ops cf k (i :: is) (⟨d, .load T x, ty, pos, aft, gd⟩ :: l) loc tmp L) : EO X ops cf k (i :: is) (⟨d, .load T x, ty, pos, aft, gd⟩ :: l) loc tmp L := h
theorem is_store (h : EO X ops cf k (i :: is) (⟨d, .store T x y, ty, pos, aft, gd⟩ :: l) loc tmp L) : EO X ops cf k (i :: is) (⟨d, .store T x y, ty, pos, aft, gd⟩ :: l) loc tmp L := h
theorem is_convert (h : EO X ops cf k (i :: is) (⟨d, .convert S T x, ty, pos, aft, gd⟩ :: l) loc tmp L) : EO X ops cf k (i :: is) (⟨d, .convert S T x, ty, pos, aft, gd⟩ :: l) loc tmp L := h
theorem is_unOp (h : EO X ops cf k (i :: is) (⟨d, .unOp u T x, ty, pos, aft, gd⟩ :: l) loc tmp L) : EO X ops cf k (i :: is) (⟨d, .unOp u T x, ty, pos, aft, gd⟩ :: l) loc tmp L := h
theorem is_extract (h : EO X ops cf k (i :: is) (⟨d, .extract x j, ty, pos, aft, gd⟩ :: l) loc tmp L) : EO X ops cf k (i :: is) (⟨d, .extract x j, ty, pos, aft, gd⟩ :: l) loc tmp L := h
theorem is_pick (h : EO X ops cf k (i :: is) (⟨d, .pick x y z, ty, pos, aft, gd⟩ :: l) loc tmp L) : EO X ops cf k (i :: is) (⟨d, .pick x y z, ty, pos, aft, gd⟩ :: l) loc tmp L := h
theorem is_build (h : EO X ops cf k (i :: is) (⟨d, .build T ps, ty, pos, aft, gd⟩ :: l) loc tmp L) : EO X ops cf k (i :: is) (⟨d, .build T ps, ty, pos, aft, gd⟩ :: l) loc tmp L := h
theorem is_indexAddr (h : EO X ops cf k (i :: is) (⟨d, .indexAddr T x y, ty, pos, aft, gd⟩ :: l) loc tmp L) : EO X ops cf k (i :: is) (⟨d, .indexAddr T x y, ty, pos, aft, gd⟩ :: l) loc tmp L := h
theorem is_slice (h : EO X ops cf k (i :: is) (⟨d, .slice T x ox oy oz, ty, pos, aft, gd⟩ :: l) loc tmp L) : EO X ops cf k (i :: is) (⟨d, .slice T x ox oy oz, ty, pos, aft, gd⟩ :: l) loc tmp L := h
theorem is_index (h : EO X ops cf k (i :: is) (⟨d, .index T x y, ty, pos, aft, gd⟩ :: l) loc tmp L) : EO X ops cf k (i :: is) (⟨d, .index T x y, ty, pos, aft, gd⟩ :: l) loc tmp L := h
theorem is_len (h : EO X ops cf k (i :: is) (⟨d, .call ⟨.builtin .len, xs, tys⟩, ty, pos, aft, gd⟩ :: l) loc tmp L) : EO X ops cf k (i :: is) (⟨d, .call ⟨.builtin .len, xs, tys⟩, ty, pos, aft, gd⟩ :: l) loc tmp L := h
theorem is_add (h : EO X ops cf k (i :: is) (⟨d, .binOp .add T x y S, ty, pos, aft, gd⟩ :: l) loc tmp L) : EO X ops cf k (i :: is) (⟨d, .binOp .add T x y S, ty, pos, aft, gd⟩ :: l) loc tmp L := h
theorem is_sub (h : EO X ops cf k (i :: is) (⟨d, .binOp .sub T x y S, ty, pos, aft, gd⟩ :: l) loc tmp L) : EO X ops cf k (i :: is) (⟨d, .binOp .sub T x y S, ty, pos, aft, gd⟩ :: l) loc tmp L := h
theorem is_mul (h : EO X ops cf k (i :: is) (⟨d, .binOp .mul T x y S, ty, pos, aft, gd⟩ :: l) loc tmp L) : EO X ops cf k (i :: is) (⟨d, .binOp .mul T x y S, ty, pos, aft, gd⟩ :: l) loc tmp L := h
theorem is_quo (h : EO X ops cf k (i :: is) (⟨d, .binOp .quo T x y S, ty, pos, aft, gd⟩ :: l) loc tmp L) : EO X ops cf k (i :: is) (⟨d, .binOp .quo T x y S, ty, pos, aft, gd⟩ :: l) loc tmp L := h
theorem is_rem (h : EO X ops cf k (i :: is) (⟨d, .binOp .rem T x y S, ty, pos, aft, gd⟩ :: l) loc tmp L) : EO X ops cf k (i :: is) (⟨d, .binOp .rem T x y S, ty, pos, aft, gd⟩ :: l) loc tmp L := h
theorem is_and (h : EO X ops cf k (i :: is) (⟨d, .binOp .and T x y S, ty, pos, aft, gd⟩ :: l) loc tmp L) : EO X ops cf k (i :: is) (⟨d, .binOp .and T x y S, ty, pos, aft, gd⟩ :: l) loc tmp L := h
theorem is_or (h : EO X ops cf k (i :: is) (⟨d, .binOp .or T x y S, ty, pos, aft, gd⟩ :: l) loc tmp L) : EO X ops cf k (i :: is) (⟨d, .binOp .or T x y S, ty, pos, aft, gd⟩ :: l) loc tmp L := h
theorem is_xor (h : EO X ops cf k (i :: is) (⟨d, .binOp .xor T x y S, ty, pos, aft, gd⟩ :: l) loc tmp L) : EO X ops cf k (i :: is) (⟨d, .binOp .xor T x y S, ty, pos, aft, gd⟩ :: l) loc tmp L := h
theorem is_shl (h : EO X ops cf k (i :: is) (⟨d, .binOp .shl T x y S, ty, pos, aft, gd⟩ :: l) loc tmp L) : EO X ops cf k (i :: is) (⟨d, .binOp .shl T x y S, ty, pos, aft, gd⟩ :: l) loc tmp L := h
theorem is_shr (h : EO X ops cf k (i :: is) (⟨d, .binOp .shr T x y S, ty, pos, aft, gd⟩ :: l) loc tmp L) : EO X ops cf k (i :: is) (⟨d, .binOp .shr T x y S, ty, pos, aft, gd⟩ :: l) loc tmp L := h
theorem is_andNot (h : EO X ops cf k (i :: is) (⟨d, .binOp .andNot T x y S, ty, pos, aft, gd⟩ :: l) loc tmp L) : EO X ops cf k (i :: is) (⟨d, .binOp .andNot T x y S, ty, pos, aft, gd⟩ :: l) loc tmp L := h
theorem is_eql (h : EO X ops cf k (i :: is) (⟨d, .binOp .eql T x y S, ty, pos, aft, gd⟩ :: l) loc tmp L) : EO X ops cf k (i :: is) (⟨d, .binOp .eql T x y S, ty, pos, aft, gd⟩ :: l) loc tmp L := h
theorem is_neq (h : EO X ops cf k (i :: is) (⟨d, .binOp .neq T x y S, ty, pos, aft, gd⟩ :: l) loc tmp L) : EO X ops cf k (i :: is) (⟨d, .binOp .neq T x y S, ty, pos, aft, gd⟩ :: l) loc tmp L := h
theorem is_lss (h : EO X ops cf k (i :: is) (⟨d, .binOp .lss T x y S, ty, pos, aft, gd⟩ :: l) loc tmp L) : EO X ops cf k (i :: is) (⟨d, .binOp .lss T x y S, ty, pos, aft, gd⟩ :: l) loc tmp L := h
theorem is_leq (h : EO X ops cf k (i :: is) (⟨d, .binOp .leq T x y S, ty, pos, aft, gd⟩ :: l) loc tmp L) : EO X ops cf k (i :: is) (⟨d, .binOp .leq T x y S, ty, pos, aft, gd⟩ :: l) loc tmp L := h
theorem is_gtr (h : EO X ops cf k (i :: is) (⟨d, .binOp .gtr T x y S, ty, pos, aft, gd⟩ :: l) loc tmp L) : EO X ops cf k (i :: is) (⟨d, .binOp .gtr T x y S, ty, pos, aft, gd⟩ :: l) loc tmp L := h
theorem is_geq (h : EO X ops cf k (i :: is) (⟨d, .binOp .geq T x y S, ty, pos, aft, gd⟩ :: l) loc tmp L) : EO X ops cf k (i :: is) (⟨d, .binOp .geq T x y S, ty, pos, aft, gd⟩ :: l) loc tmp L := h
theorem is_guard {o : Op} {g : Nat × Bool} (h : EO X ops cf k (i :: is) (⟨d, o, ty, pos, aft, some g⟩ :: l) loc tmp L) : EO X ops cf k (i :: is) (⟨d, o, ty, pos, aft, some g⟩ :: l) loc tmp L := h
end
end Go.Proofs.YtppkiiomedembaaGreatDoor
namespace Go.Proofs.YtppkiiomedembaaGreatDoor
open Go
def enc (bs : List UInt8) : List Value := bs.map fun b => .int .u8 (b.toNat : Int)
theorem enc_len (bs : List UInt8) : (enc bs).length = bs.length := by simp [enc]
theorem enc_app (a b : List UInt8) : enc (a ++ b) = enc a ++ enc b := by simp [enc]
theorem enc_take (a : List UInt8) (n : Nat) : enc (a.take n) = (enc a).take n := by simp [enc, List.map_take]
theorem enc_drop (a : List UInt8) (n : Nat) : enc (a.drop n) = (enc a).drop n := by simp [enc, List.map_drop]
theorem enc_zeros (n : Nat) : enc (List.replicate n 0) = List.replicate n (.int .u8 0) := by simp [enc]
theorem enc_one {bs : List UInt8} : ∀ u ∈ enc bs, u.oneCell' = true := by
  intro u hu
  obtain ⟨b, _, rfl⟩ := List.mem_map.1 hu
  rfl
theorem enc_all (bs : List UInt8) : (enc bs).all (·.oneCell') = true := List.all_eq_true.2 fun u hu => enc_one u hu
def lay (B : List UInt8) (p : Nat) (bs : List UInt8) : List UInt8 :=
  let B' := B ++ List.replicate (p + bs.length - B.length) 0
  B'.take p ++ bs ++ B'.drop (p + bs.length)
theorem Rd.there {L : List HP} {B : Option Addr} {m sz : Nat} {news : List Value} (h : Rd L B m sz news) (A : HP) : Rd (A :: L) B m sz news :=
  ⟨h.1, h.2.imp id fun ⟨g, o, e, hc⟩ => ⟨g, o, e, hc.there⟩⟩
def str (l : List UInt8) : ByteArray := ⟨l.toArray⟩
theorem str_size (l : List UInt8) : (str l).size = l.length := by simp [str, ByteArray.size]
theorem str_data (l : List UInt8) : (str l).data.toList = l := rfl
theorem str_extract (l : List UInt8) (a b : Nat) : (str l).extract a b = str ((l.take b).drop a) := by
  apply ByteArray.ext
  simp only [ByteArray.data_extract, str]
  apply Array.ext'
  simp [List.drop_take]
section
variable {X : Fx} {ops : Array Oper} {cf : Nat → Cls} {k : List Item} {i : Nat} {is : List Nat} {l : List Oper} {loc loc' : List Value} {tmp tmp' : List (Nat × Value)} {L L' F M : List HP}
  {d : Option Tmp} {ty : TypeId} {pos : String} {aft : Array Edge} {gd : Option (Nat × Bool)}
theorem x_sH {t b : Nat} {K' : IntKind} {s : List UInt8} {x z : Operand} {q : Int} [hv : NatV q b] [hu : StrTy X.P t] (hx : sv loc tmp x = some (.string (str s))) (hz : sv loc tmp z = some (.int K' q)) (hbs : b ≤ s.length)
    (hp : Pt loc tmp d (.string (str (s.take b))) loc' tmp') (h : EO X ops cf k is l loc' tmp' L)
    (hg : gdv ops loc tmp gd = some true := by rfl) (hd : dOK X.n d = true := by rfl) : EO X ops cf k (i :: is) (⟨d, .slice t x none (some z) none, ty, pos, aft, gd⟩ :: l) loc tmp L :=
  x_slStrH hx hz hv.h (by rw [str_size]; exact hbs) (by rw [str_extract]; simpa using hp) h hg hd
theorem x_sL {t a : Nat} {K : IntKind} {s : List UInt8} {x y : Operand} {p : Int} [hv : NatV p a] [hu : StrTy X.P t] (hx : sv loc tmp x = some (.string (str s))) (hy : sv loc tmp y = some (.int K p)) (hab : a ≤ s.length)
    (hp : Pt loc tmp d (.string (str (s.drop a))) loc' tmp') (h : EO X ops cf k is l loc' tmp' L)
    (hg : gdv ops loc tmp gd = some true := by rfl) (hd : dOK X.n d = true := by rfl) : EO X ops cf k (i :: is) (⟨d, .slice t x (some y) none none, ty, pos, aft, gd⟩ :: l) loc tmp L :=
  x_slStrL hx hy hv.h (by rw [str_size]; exact hab) (by rw [str_extract, str_size, List.take_length]; exact hp) h hg hd
theorem x_sAt {t a : Nat} {K : IntKind} {s : List UInt8} {x y : Operand} {p : Int} {c : UInt8} [hv : NatV p a] [hu : StrTy X.P t] (hx : sv loc tmp x = some (.string (str s))) (hy : sv loc tmp y = some (.int K p)) (hc : s[a]? = some c)
    (hp : Pt loc tmp d (.int .u8 (c.toNat : Int)) loc' tmp') (h : EO X ops cf k is l loc' tmp' L)
    (hg : gdv ops loc tmp gd = some true := by rfl) (hd : dOK X.n d = true := by rfl) : EO X ops cf k (i :: is) (⟨d, .index t x y, ty, pos, aft, gd⟩ :: l) loc tmp L :=
  x_pure hg (fun a' hr w => by
    have hu := hu.h
    have hsz : a < (str s).size := by rw [str_size]; exact (List.getElem?_eq_some_iff.1 hc).1
    have hb : (str s)[a]? = some c := by
      rw [getElem?_pos (str s) a hsz]
      obtain ⟨h1, h2⟩ := List.getElem?_eq_some_iff.1 hc
      congr 1
    have h0 : (0 : Int) ≤ a := by omega
    simp [execOp, hr.ev hx, hr.ev hy, hv.h, Instr.index, asIntOf, run_underlying hu, hb]) hp hd h
theorem x_lenT {t : TypeId} {x : Operand} {s : List UInt8} [hu : StrTy X.P t] (hx : sv loc tmp x = some (.string (str s))) (hp : Pt loc tmp d (.int .i64 s.length) loc' tmp') (h : EO X ops cf k is l loc' tmp' L)
    (hg : gdv ops loc tmp gd = some true := by rfl) (hd : dOK X.n d = true := by rfl) : EO X ops cf k (i :: is) (⟨d, .call ⟨.builtin .len, #[x], #[t]⟩, ty, pos, aft, gd⟩ :: l) loc tmp L :=
  x_lenS hx (by rw [str_size]; exact hp) h hg hd
theorem str_toList (l : List UInt8) : (str l).toList = l := by rw [Lib.toList_data]; rfl
theorem x_sEq {T T' : Nat} {x y : Operand} {s t : List UInt8} {v : Bool} (hx : sv loc tmp x = some (.string (str s))) (hy : sv loc tmp y = some (.string (str t))) (hv : (s == t) = v)
    (hp : Pt loc tmp d (.bool v) loc' tmp') (h : EO X ops cf k is l loc' tmp' L)
    (hg : gdv ops loc tmp gd = some true := by rfl) (hd : dOK X.n d = true := by rfl) : EO X ops cf k (i :: is) (⟨d, .binOp .eql T x y T', ty, pos, aft, gd⟩ :: l) loc tmp L :=
  x_str (op := .eql) (v := v) hx hy (by simp only [str_toList, hv]) hp h hg hd
theorem x_sNe {T T' : Nat} {x y : Operand} {s t : List UInt8} {v : Bool} (hx : sv loc tmp x = some (.string (str s))) (hy : sv loc tmp y = some (.string (str t))) (hv : (s != t) = v)
    (hp : Pt loc tmp d (.bool v) loc' tmp') (h : EO X ops cf k is l loc' tmp' L)
    (hg : gdv ops loc tmp gd = some true := by rfl) (hd : dOK X.n d = true := by rfl) : EO X ops cf k (i :: is) (⟨d, .binOp .neq T x y T', ty, pos, aft, gd⟩ :: l) loc tmp L :=
  x_str (op := .neq) (v := v) hx hy (by simp only [str_toList]; rw [← hv]; rfl) hp h hg hd
theorem fold_str : ∀ (bs : List UInt8) (r : List UInt8), (bs.map fun b => (b.toNat : Int)).foldl (fun r n => r.push (UInt8.ofNat n.toNat)) (str r) = str (r ++ bs)
  | [], r => by simp
  | b :: bs, r => by
    have h1 : (str r).push b = str (r ++ [b]) := by
      apply ByteArray.ext
      simp [str]
    have h2 : UInt8.ofNat ((b.toNat : Int).toNat) = b := by simp
    simp only [List.map_cons, List.foldl_cons, h2, h1]
    rw [fold_str bs (r ++ [b]), List.append_assoc]; rfl
theorem x_toStr {S T e g o n c : Nat} {x : Operand} {bs : List UInt8} [SlTy X.P S e 1] [StrTy X.P T] [hI : IntTy X.P e .u8] (hx : sv loc tmp x = some (.slice (some ⟨g, o, none⟩) n c)) (hr : CellRow L g o (enc bs)) (hn : bs.length = n)
    (hp : Pt loc tmp d (.string (str bs)) loc' tmp') (h : EO X ops cf k is l loc' tmp' L)
    (hg : gdv ops loc tmp gd = some true := by rfl) (hd : dOK X.n d = true := by rfl) (hcl : (cf i).reads = true := by rfl) : EO X ops cf k (i :: is) (⟨d, .convert S T x, ty, pos, aft, gd⟩ :: l) loc tmp L :=
  x_read hg hcl (fun a hrl w0 S0 w hs q => by
    obtain ⟨hu, _⟩ := SlTy.out (P := X.P) (T := S) (e := e) (sz := 1)
    have hu' := (inferInstance : StrTy X.P T).h
    have he := IntTy.out (P := X.P) (T := e) (K := .u8)
    have hld := run_loadCells_list (P := X.P) (wat w q) ⟨g, o, none⟩ (enc bs) (fun j v hv => by rw [add_at]; exact (hr j v hv).at_ (hs.wat q))
    rw [enc_len, hn] at hld
    have hm : enc bs = (bs.map fun b => (b.toNat : Int)).map (Value.int .u8) := by simp [enc]
    rw [hm] at hld
    have hrun := run_bytesToString (P := X.P) (wat w q) ⟨g, o, none⟩ n c _ hld
    have hf := fold_str bs []
    have he0 : ByteArray.empty = str [] := rfl
    rw [he0, hf] at hrun
    simp [RunN, execOp, hrl.ev hx, convert, run_underlying hu, run_underlying hu', run_underlying he, hrun]
    exact nrm_wat w q) hp hd h
theorem x_copyS {t t' e g o dn dc : Nat} {x y : Operand} {s : List UInt8} [SlTy X.P t e 1] (hx : sv loc tmp x = some (.slice (some ⟨g, o, none⟩) dn dc)) (hy : sv loc tmp y = some (.string (str s)))
    (hw : PutR L g o (enc (s.take dn)) L') (hp : Pt loc tmp d (.int .i64 (min s.length dn : Nat)) loc' tmp') (h : EO X ops cf k is l loc' tmp' L')
    (hg : gdv ops loc tmp gd = some true := by rfl) (hd : dOK X.n d = true := by rfl) (hcl : cf i = .any := by rfl) (hq : X.q = false := by rfl) :
    EO X ops cf k (i :: is) (⟨d, .call ⟨.builtin .copy, #[x, y], #[t, t']⟩, ty, pos, aft, gd⟩ :: l) loc tmp L :=
  x_any (Rv := fun v L'' => v = .int .i64 (min s.length dn : Nat) ∧ L'' = L') hg hcl (fun a hrl w0 S0 w hs q => by
    obtain ⟨hu, j, hj, hz⟩ := SlTy.out (P := X.P) (T := t) (e := e) (sz := 1)
    obtain ⟨cur, tt, hgc, hl, hs'⟩ := hw.st (hs.wat q)
    have hld : (Builtin.firstCells 1 (min s.length dn) (.string (str s))).run X.P (wat w q) = .ok (enc (s.take dn)).toArray (wat w q) := by
      have e1 : s.take (min s.length dn) = s.take dn := by
        rcases Nat.le_total s.length dn with h1 | h1
        · rw [Nat.min_eq_left h1, List.take_length, List.take_of_length_le h1]
        · rw [Nat.min_eq_right h1]
      simp only [Builtin.firstCells, str_extract, List.drop_zero, e1, Sem.run_pure]
      simp [str, enc]
    have hst := run_storeCells_at X.P g o tt (enc (s.take dn)) 0 cur (wat w q) hgc (by simpa using hl) (fun v hv => enc_one v hv)
    simp only [Nat.add_zero] at hst
    have e : ovw cur.toList o (enc (s.take dn)) = cur.toList.take o ++ enc (s.take dn) ++ cur.toList.drop (o + (enc (s.take dn)).length) := rfl
    have hmin : Nat.min s.length dn = min s.length dn := rfl
    simp only [RunN, execOp, resolve, invoke, builtin, Builtin.copy_, Builtin.lenOf, List.map_toArray, List.map_cons, List.map_nil, hrl.ev hx, hrl.ev hy, Sem.run_bind, Sem.run_pure, Result.andThen_ok, run_underlying hu, str_size, hmin,
      List.getElem?_toArray, List.getElem?_cons_zero, List.getElem?_cons_succ, sizeOf, typeInfo, run_program, hj, hz, hld, hst]
    rw [hq]
    exact ⟨L', ⟨rfl, rfl⟩, by rw [← e]; exact hs'⟩) hd (fun v L'' ⟨e1, e2⟩ => by subst e1 e2; exact ⟨_, _, hp, h⟩)
end
section
variable {X : Fx} {ops : Array Oper} {cf : Nat → Cls} {k : List Item} {i : Nat} {is : List Nat} {l : List Oper} {loc loc' : List Value} {tmp tmp' : List (Nat × Value)} {L L' F M : List HP}
  {d : Option Tmp} {ty : TypeId} {pos : String} {aft : Array Edge} {gd : Option (Nat × Bool)}
theorem x_appE {t e n m c c' g o : Nat} {z : Value} {x y : Operand} {A : Option Addr} {bs us : List UInt8} [SlE X.P t e 1 1 [z]] (hx : sv loc tmp x = some (.slice A n c)) (hy : sv loc tmp y = some (.slice (some ⟨g, o, none⟩) m c'))
    (ht : Take (Own A c e 1 n (enc bs)) L F) (hr : CellRow F g o (enc us)) (hm : us.length = m) (h63 : n + m ≤ 1000000000000)
    (h : ∀ A' c', ∃ loc' tmp', Pt loc tmp d (.slice A' (n + m) c') loc' tmp' ∧ EO X ops cf k is l loc' tmp' (Own A' c' e 1 (n + m) (enc (bs ++ us)) :: F))
    (hg : gdv ops loc tmp gd = some true := by rfl) (hd : dOK X.n d = true := by rfl) (hcl : cf i = .any := by rfl) (hq : X.q = false := by rfl) :
    EO X ops cf k (i :: is) (⟨d, .call ⟨.builtin .append, #[x, y], #[t, t]⟩, ty, pos, aft, gd⟩ :: l) loc tmp L :=
  x_app1 hx hy ht hr (by rw [enc_len, hm]) (enc_all us) h63 (by omega) (by simpa [enc_app] using h) hg hd hcl hq
end
theorem Rd.take {M : HP} {L F : List HP} {B : Option Addr} {m sz : Nat} {news : List Value} (h : Rd [M] B m sz news) (ht : Take M L F) : Rd L B m sz news := by
  obtain ⟨h1, h2⟩ := h
  refine ⟨h1, h2.imp id fun ⟨g, o, e, hc⟩ => ⟨g, o, e, fun j v hj mm S hS => ?_⟩⟩
  obtain ⟨S1, S2, a, _⟩ := sats_perm ht.perm hS
  exact hc j v hj mm S1 (sats_one a)
theorem Rd.own {g c e n : Nat} {vs : List Value} (h : vs.length = n) : Rd [Own (some ⟨g, 0, none⟩) c e 1 n vs] (some ⟨g, 0, none⟩) n 1 vs := ⟨by omega, .inr ⟨g, 0, rfl, by
  intro j v hj mm S hS
  simp only [Nat.zero_add]
  obtain ⟨_, _, _, ⟨h, _⟩ | ⟨g', junk, h, _, hg, _⟩⟩ := sats_one' hS
  · cases h
  · cases h
    refine ⟨_, _, _, hg, ?_⟩
    have := (List.getElem?_eq_some_iff.1 hj).1
    simp only [List.getElem?_toArray]
    rw [List.getElem?_append_left this, hj]⟩⟩
end Go.Proofs.YtppkiiomedembaaGreatDoor
