/-
  The table of facts on this seat's types, printed by gen_tab.py; What is asked of types whose values are written down; A walk by symbolic states, layer 3: parts of memory that are hidden or put together; A walk by symbolic states, layer 3: bytes and texts; A walk by symbolic states, layer 5: more operations; The orders in which the regions that draw are walked; A walk by symbolic states, layer 4: rules that find what they ask for; The walks: the disk in memory, and the writer's small functions; The walks: the writer's small functions. Conditions: none.
-/
import Derived.Test.YtcdalfhkhifplaaGreatDoorM01
import Derived.Test.YtcdalfhkhifplaaGreatDoorProg
import Derived.KernelRfl
import Derived.Laws.Tables
import Derived.Laws.BytesString
import Derived.Lib.Strings
set_option linter.unusedVariables false
set_option linter.unusedSimpArgs false
namespace Go.Proofs.YtcdalfhkhifplaaGreatDoor
open Go
theorem mixed : Tryz.prog.follows .mixedOrders = true := by kernel_rfl
instance : FldOff Tryz.prog 26 0 0 := ⟨by kernel_rfl⟩
instance : FldOff Tryz.prog 26 1 1 := ⟨by kernel_rfl⟩
instance : FldOff Tryz.prog 26 2 2 := ⟨by kernel_rfl⟩
instance : FldOff Tryz.prog 29 0 0 := ⟨by kernel_rfl⟩
instance : FldOff Tryz.prog 29 1 1 := ⟨by kernel_rfl⟩
instance : FldOff Tryz.prog 29 2 2 := ⟨by kernel_rfl⟩
instance : FldOff Tryz.prog 29 3 3 := ⟨by kernel_rfl⟩
instance : FldOff Tryz.prog 29 4 4 := ⟨by kernel_rfl⟩
instance : FldOff Tryz.prog 29 5 5 := ⟨by kernel_rfl⟩
instance : FldOff Tryz.prog 29 6 8 := ⟨by kernel_rfl⟩
instance : FldOff Tryz.prog 29 7 11 := ⟨by kernel_rfl⟩
instance : FldOff Tryz.prog 29 8 14 := ⟨by kernel_rfl⟩
instance : FldOff Tryz.prog 29 9 17 := ⟨by kernel_rfl⟩
instance : FldOff Tryz.prog 29 10 18 := ⟨by kernel_rfl⟩
instance : FldOff Tryz.prog 29 11 19 := ⟨by kernel_rfl⟩
instance : FldOff Tryz.prog 35 0 0 := ⟨by kernel_rfl⟩
instance : FldOff Tryz.prog 35 1 1 := ⟨by kernel_rfl⟩
instance : FldOff Tryz.prog 35 2 2 := ⟨by kernel_rfl⟩
instance : FldOff Tryz.prog 35 3 3 := ⟨by kernel_rfl⟩
instance : FldOff Tryz.prog 35 4 23 := ⟨by kernel_rfl⟩
instance : FldOff Tryz.prog 42 0 0 := ⟨by kernel_rfl⟩
instance : FldOff Tryz.prog 45 0 0 := ⟨by kernel_rfl⟩
instance : FldOff Tryz.prog 45 1 1 := ⟨by kernel_rfl⟩
instance : FldOff Tryz.prog 49 0 0 := ⟨by kernel_rfl⟩
instance : FldOff Tryz.prog 49 1 1 := ⟨by kernel_rfl⟩
instance : FldOff Tryz.prog 49 2 2 := ⟨by kernel_rfl⟩
instance : FldOff Tryz.prog 49 3 3 := ⟨by kernel_rfl⟩
instance : FldOff Tryz.prog 49 4 5 := ⟨by kernel_rfl⟩
instance : FldOff Tryz.prog 49 5 7 := ⟨by kernel_rfl⟩
instance : FldOff Tryz.prog 49 6 9 := ⟨by kernel_rfl⟩
instance : FldOff Tryz.prog 49 7 11 := ⟨by kernel_rfl⟩
instance : FldOff Tryz.prog 49 8 12 := ⟨by kernel_rfl⟩
instance : FldOff Tryz.prog 49 9 13 := ⟨by kernel_rfl⟩
instance : FldOff Tryz.prog 49 10 14 := ⟨by kernel_rfl⟩
instance : FldOff Tryz.prog 49 11 15 := ⟨by kernel_rfl⟩
instance : FldOff Tryz.prog 49 12 16 := ⟨by kernel_rfl⟩
instance : FldOff Tryz.prog 49 13 17 := ⟨by kernel_rfl⟩
instance : FldOff Tryz.prog 63 0 0 := ⟨by kernel_rfl⟩
instance : FldOff Tryz.prog 63 1 1 := ⟨by kernel_rfl⟩
instance : FldOff Tryz.prog 63 2 2 := ⟨by kernel_rfl⟩
instance : FldOff Tryz.prog 63 3 3 := ⟨by kernel_rfl⟩
instance : FldOff Tryz.prog 63 4 4 := ⟨by kernel_rfl⟩
instance : FldOff Tryz.prog 63 5 5 := ⟨by kernel_rfl⟩
instance : FldOff Tryz.prog 63 6 6 := ⟨by kernel_rfl⟩
instance : FldOff Tryz.prog 63 7 7 := ⟨by kernel_rfl⟩
instance : FldOff Tryz.prog 63 8 8 := ⟨by kernel_rfl⟩
instance : FldOff Tryz.prog 63 9 9 := ⟨by kernel_rfl⟩
instance : FldOff Tryz.prog 63 10 10 := ⟨by kernel_rfl⟩
instance : FldOff Tryz.prog 66 0 0 := ⟨by kernel_rfl⟩
instance : FldOff Tryz.prog 66 1 1 := ⟨by kernel_rfl⟩
instance : FldOff Tryz.prog 66 2 2 := ⟨by kernel_rfl⟩
instance : FldOff Tryz.prog 66 3 3 := ⟨by kernel_rfl⟩
instance : FldOff Tryz.prog 66 4 4 := ⟨by kernel_rfl⟩
instance : FldOff Tryz.prog 66 5 5 := ⟨by kernel_rfl⟩
instance : FldOff Tryz.prog 66 6 6 := ⟨by kernel_rfl⟩
instance : FldOff Tryz.prog 66 7 7 := ⟨by kernel_rfl⟩
instance : FldOff Tryz.prog 66 8 8 := ⟨by kernel_rfl⟩
instance : FldOff Tryz.prog 66 9 10 := ⟨by kernel_rfl⟩
instance : FldOff Tryz.prog 66 10 12 := ⟨by kernel_rfl⟩
instance : FldOff Tryz.prog 66 11 14 := ⟨by kernel_rfl⟩
instance : FldOff Tryz.prog 66 12 16 := ⟨by kernel_rfl⟩
instance : FldOff Tryz.prog 66 13 17 := ⟨by kernel_rfl⟩
instance : FldOff Tryz.prog 66 14 18 := ⟨by kernel_rfl⟩
instance : FldOff Tryz.prog 66 15 19 := ⟨by kernel_rfl⟩
instance : FldOff Tryz.prog 66 16 20 := ⟨by kernel_rfl⟩
instance : FldOff Tryz.prog 66 17 21 := ⟨by kernel_rfl⟩
instance : FldOff Tryz.prog 66 18 22 := ⟨by kernel_rfl⟩
instance : FldOff Tryz.prog 69 0 0 := ⟨by kernel_rfl⟩
instance : FldOff Tryz.prog 69 1 1 := ⟨by kernel_rfl⟩
instance : FldOff Tryz.prog 72 0 0 := ⟨by kernel_rfl⟩
instance : FldOff Tryz.prog 72 1 1 := ⟨by kernel_rfl⟩
instance : FldOff Tryz.prog 72 2 2 := ⟨by kernel_rfl⟩
instance : FldOff Tryz.prog 74 0 0 := ⟨by kernel_rfl⟩
instance : FldOff Tryz.prog 74 1 1 := ⟨by kernel_rfl⟩
instance : FldOff Tryz.prog 79 0 0 := ⟨by kernel_rfl⟩
instance : FldOff Tryz.prog 79 1 1 := ⟨by kernel_rfl⟩
instance : FldOff Tryz.prog 87 0 0 := ⟨by kernel_rfl⟩
instance : FldOff Tryz.prog 87 1 1 := ⟨by kernel_rfl⟩
instance : FldOff Tryz.prog 87 2 2 := ⟨by kernel_rfl⟩
instance : FldOff Tryz.prog 112 0 0 := ⟨by kernel_rfl⟩
instance : FldOff Tryz.prog 112 1 1 := ⟨by kernel_rfl⟩
instance : FldOff Tryz.prog 112 2 2 := ⟨by kernel_rfl⟩
instance : FldOff Tryz.prog 112 3 3 := ⟨by kernel_rfl⟩
instance : FldOff Tryz.prog 112 4 4 := ⟨by kernel_rfl⟩
instance : FldOff Tryz.prog 112 5 5 := ⟨by kernel_rfl⟩
instance : FldOff Tryz.prog 112 6 6 := ⟨by kernel_rfl⟩
instance : FldOff Tryz.prog 112 7 7 := ⟨by kernel_rfl⟩
instance : FldOff Tryz.prog 112 8 8 := ⟨by kernel_rfl⟩
instance : FldOff Tryz.prog 112 9 9 := ⟨by kernel_rfl⟩
instance : FldOff Tryz.prog 112 10 10 := ⟨by kernel_rfl⟩
instance : FldOff Tryz.prog 112 11 11 := ⟨by kernel_rfl⟩
instance : FldOff Tryz.prog 116 0 0 := ⟨by kernel_rfl⟩
instance : FldOff Tryz.prog 116 1 1 := ⟨by kernel_rfl⟩
instance : FldOff Tryz.prog 116 2 2 := ⟨by kernel_rfl⟩
instance : FldOff Tryz.prog 119 0 0 := ⟨by kernel_rfl⟩
instance : FldOff Tryz.prog 119 1 1 := ⟨by kernel_rfl⟩
instance : FldOff Tryz.prog 119 2 2 := ⟨by kernel_rfl⟩
instance : FldOff Tryz.prog 119 3 3 := ⟨by kernel_rfl⟩
instance : FldOff Tryz.prog 119 4 4 := ⟨by kernel_rfl⟩
instance : FldOff Tryz.prog 119 5 5 := ⟨by kernel_rfl⟩
instance : FldOff Tryz.prog 119 6 8 := ⟨by kernel_rfl⟩
instance : FldOff Tryz.prog 119 7 11 := ⟨by kernel_rfl⟩
instance : FldOff Tryz.prog 119 8 14 := ⟨by kernel_rfl⟩
instance : FldOff Tryz.prog 119 9 17 := ⟨by kernel_rfl⟩
instance : FldOff Tryz.prog 119 10 18 := ⟨by kernel_rfl⟩
instance : FldOff Tryz.prog 119 11 19 := ⟨by kernel_rfl⟩
instance : FldOff Tryz.prog 125 0 0 := ⟨by kernel_rfl⟩
instance : FldOff Tryz.prog 125 1 1 := ⟨by kernel_rfl⟩
instance : FldOff Tryz.prog 125 2 2 := ⟨by kernel_rfl⟩
instance : FldOff Tryz.prog 125 3 3 := ⟨by kernel_rfl⟩
instance : FldOff Tryz.prog 125 4 4 := ⟨by kernel_rfl⟩
instance : FldOff Tryz.prog 125 5 5 := ⟨by kernel_rfl⟩
instance : FldOff Tryz.prog 125 6 6 := ⟨by kernel_rfl⟩
instance : FldOff Tryz.prog 125 7 7 := ⟨by kernel_rfl⟩
instance : FldOff Tryz.prog 125 8 8 := ⟨by kernel_rfl⟩
instance : FldOff Tryz.prog 125 9 9 := ⟨by kernel_rfl⟩
instance : FldOff Tryz.prog 125 10 10 := ⟨by kernel_rfl⟩
instance : FldOff Tryz.prog 125 11 11 := ⟨by kernel_rfl⟩
instance : FldOff Tryz.prog 125 12 12 := ⟨by kernel_rfl⟩
instance : FldOff Tryz.prog 125 13 13 := ⟨by kernel_rfl⟩
instance : FldOff Tryz.prog 125 14 14 := ⟨by kernel_rfl⟩
instance : FldOff Tryz.prog 125 15 15 := ⟨by kernel_rfl⟩
instance : FldOff Tryz.prog 125 16 16 := ⟨by kernel_rfl⟩
instance : FldOff Tryz.prog 125 17 17 := ⟨by kernel_rfl⟩
instance : FldOff Tryz.prog 148 0 0 := ⟨by kernel_rfl⟩
instance : FldOff Tryz.prog 154 0 0 := ⟨by kernel_rfl⟩
instance : FldOff Tryz.prog 154 1 1 := ⟨by kernel_rfl⟩
instance : FldOff Tryz.prog 154 2 2 := ⟨by kernel_rfl⟩
instance : FldOff Tryz.prog 154 3 3 := ⟨by kernel_rfl⟩
instance : FldOff Tryz.prog 154 4 4 := ⟨by kernel_rfl⟩
instance : FldOff Tryz.prog 154 5 5 := ⟨by kernel_rfl⟩
instance : FldOff Tryz.prog 154 6 6 := ⟨by kernel_rfl⟩
instance : FldOff Tryz.prog 154 7 7 := ⟨by kernel_rfl⟩
instance : FldOff Tryz.prog 154 8 8 := ⟨by kernel_rfl⟩
instance : FldOff Tryz.prog 154 9 9 := ⟨by kernel_rfl⟩
instance : FldOff Tryz.prog 154 10 10 := ⟨by kernel_rfl⟩
instance : FldOff Tryz.prog 154 11 11 := ⟨by kernel_rfl⟩
instance : FldOff Tryz.prog 171 0 0 := ⟨by kernel_rfl⟩
instance : FldOff Tryz.prog 171 1 1 := ⟨by kernel_rfl⟩
instance : FldOff Tryz.prog 171 2 2 := ⟨by kernel_rfl⟩
instance : FldOff Tryz.prog 171 3 3 := ⟨by kernel_rfl⟩
instance : FldOff Tryz.prog 171 4 4 := ⟨by kernel_rfl⟩
instance : FldOff Tryz.prog 171 5 5 := ⟨by kernel_rfl⟩
instance : FldOff Tryz.prog 171 6 6 := ⟨by kernel_rfl⟩
instance : FldOff Tryz.prog 171 7 7 := ⟨by kernel_rfl⟩
instance : FldOff Tryz.prog 171 8 8 := ⟨by kernel_rfl⟩
instance : FldOff Tryz.prog 171 9 9 := ⟨by kernel_rfl⟩
instance : FldOff Tryz.prog 171 10 10 := ⟨by kernel_rfl⟩
instance : FldOff Tryz.prog 171 11 11 := ⟨by kernel_rfl⟩
instance : FldOff Tryz.prog 171 12 12 := ⟨by kernel_rfl⟩
instance : FldOff Tryz.prog 171 13 13 := ⟨by kernel_rfl⟩
instance : FldOff Tryz.prog 171 14 14 := ⟨by kernel_rfl⟩
instance : FldOff Tryz.prog 171 15 15 := ⟨by kernel_rfl⟩
instance : FldOff Tryz.prog 171 16 16 := ⟨by kernel_rfl⟩
instance : FldOff Tryz.prog 171 17 17 := ⟨by kernel_rfl⟩
instance : FldOff Tryz.prog 171 18 18 := ⟨by kernel_rfl⟩
instance : FldOff Tryz.prog 171 19 19 := ⟨by kernel_rfl⟩
instance : FldOff Tryz.prog 171 20 20 := ⟨by kernel_rfl⟩
instance : FldOff Tryz.prog 171 21 21 := ⟨by kernel_rfl⟩
instance : FldOff Tryz.prog 171 22 22 := ⟨by kernel_rfl⟩
instance : FldOff Tryz.prog 171 23 23 := ⟨by kernel_rfl⟩
instance : FldOff Tryz.prog 171 24 24 := ⟨by kernel_rfl⟩
instance : FldOff Tryz.prog 171 25 25 := ⟨by kernel_rfl⟩
instance : FldOff Tryz.prog 171 26 26 := ⟨by kernel_rfl⟩
instance : FldOff Tryz.prog 171 27 27 := ⟨by kernel_rfl⟩
instance : FldOff Tryz.prog 171 28 28 := ⟨by kernel_rfl⟩
instance : FldOff Tryz.prog 171 29 29 := ⟨by kernel_rfl⟩
instance : FldOff Tryz.prog 171 30 30 := ⟨by kernel_rfl⟩
instance : FldOff Tryz.prog 171 31 31 := ⟨by kernel_rfl⟩
instance : FldOff Tryz.prog 171 32 47 := ⟨by kernel_rfl⟩
instance : FldOff Tryz.prog 171 33 63 := ⟨by kernel_rfl⟩
instance : FldOff Tryz.prog 171 34 127 := ⟨by kernel_rfl⟩
instance : FldOff Tryz.prog 171 35 128 := ⟨by kernel_rfl⟩
instance : FldOff Tryz.prog 171 36 129 := ⟨by kernel_rfl⟩
instance : FldOff Tryz.prog 171 37 130 := ⟨by kernel_rfl⟩
instance : FldOff Tryz.prog 171 38 131 := ⟨by kernel_rfl⟩
instance : FldOff Tryz.prog 171 39 147 := ⟨by kernel_rfl⟩
instance : FldOff Tryz.prog 171 40 148 := ⟨by kernel_rfl⟩
instance : FldOff Tryz.prog 171 41 149 := ⟨by kernel_rfl⟩
instance : FldOff Tryz.prog 171 42 150 := ⟨by kernel_rfl⟩
instance : FldOff Tryz.prog 171 43 154 := ⟨by kernel_rfl⟩
instance : FldOff Tryz.prog 171 44 155 := ⟨by kernel_rfl⟩
instance : FldOff Tryz.prog 171 45 156 := ⟨by kernel_rfl⟩
instance : FldOff Tryz.prog 171 46 157 := ⟨by kernel_rfl⟩
instance : FldOff Tryz.prog 171 47 158 := ⟨by kernel_rfl⟩
instance : FldOff Tryz.prog 171 48 159 := ⟨by kernel_rfl⟩
instance : FldOff Tryz.prog 171 49 160 := ⟨by kernel_rfl⟩
instance : FldOff Tryz.prog 171 50 177 := ⟨by kernel_rfl⟩
instance : FldOff Tryz.prog 171 51 178 := ⟨by kernel_rfl⟩
instance : FldOff Tryz.prog 171 52 179 := ⟨by kernel_rfl⟩
instance : FldOff Tryz.prog 171 53 180 := ⟨by kernel_rfl⟩
instance : FldOff Tryz.prog 171 54 181 := ⟨by kernel_rfl⟩
instance : FldOff Tryz.prog 171 55 182 := ⟨by kernel_rfl⟩
instance : FldOff Tryz.prog 171 56 183 := ⟨by kernel_rfl⟩
instance : FldOff Tryz.prog 171 57 184 := ⟨by kernel_rfl⟩
instance : FldOff Tryz.prog 171 58 185 := ⟨by kernel_rfl⟩
instance : FldOff Tryz.prog 171 59 186 := ⟨by kernel_rfl⟩
instance : FldOff Tryz.prog 171 60 187 := ⟨by kernel_rfl⟩
instance : FldOff Tryz.prog 171 61 188 := ⟨by kernel_rfl⟩
instance : FldOff Tryz.prog 171 62 189 := ⟨by kernel_rfl⟩
instance : FldOff Tryz.prog 171 63 190 := ⟨by kernel_rfl⟩
instance : FldOff Tryz.prog 171 64 191 := ⟨by kernel_rfl⟩
instance : FldOff Tryz.prog 171 65 192 := ⟨by kernel_rfl⟩
instance : FldOff Tryz.prog 171 66 193 := ⟨by kernel_rfl⟩
instance : FldOff Tryz.prog 171 67 194 := ⟨by kernel_rfl⟩
instance : FldOff Tryz.prog 171 68 195 := ⟨by kernel_rfl⟩
instance : FldOff Tryz.prog 171 69 196 := ⟨by kernel_rfl⟩
instance : FldOff Tryz.prog 171 70 197 := ⟨by kernel_rfl⟩
instance : FldOff Tryz.prog 171 71 198 := ⟨by kernel_rfl⟩
instance : FldOff Tryz.prog 171 72 199 := ⟨by kernel_rfl⟩
instance : FldOff Tryz.prog 171 73 231 := ⟨by kernel_rfl⟩
instance : FldOff Tryz.prog 171 74 232 := ⟨by kernel_rfl⟩
instance : FldOff Tryz.prog 171 75 233 := ⟨by kernel_rfl⟩
instance : FldOff Tryz.prog 171 76 234 := ⟨by kernel_rfl⟩
instance : FldOff Tryz.prog 171 77 235 := ⟨by kernel_rfl⟩
instance : FldOff Tryz.prog 171 78 236 := ⟨by kernel_rfl⟩
instance : FldOff Tryz.prog 171 79 268 := ⟨by kernel_rfl⟩
instance : FldOff Tryz.prog 171 80 332 := ⟨by kernel_rfl⟩
instance : FldOff Tryz.prog 171 81 333 := ⟨by kernel_rfl⟩
instance : FldOff Tryz.prog 171 82 334 := ⟨by kernel_rfl⟩
instance : FldOff Tryz.prog 171 83 335 := ⟨by kernel_rfl⟩
instance : FldOff Tryz.prog 171 84 337 := ⟨by kernel_rfl⟩
instance : FldOff Tryz.prog 171 85 341 := ⟨by kernel_rfl⟩
instance : FldOff Tryz.prog 171 86 357 := ⟨by kernel_rfl⟩
instance : FldOff Tryz.prog 171 87 358 := ⟨by kernel_rfl⟩
instance : FldOff Tryz.prog 171 88 359 := ⟨by kernel_rfl⟩
instance : FldOff Tryz.prog 171 89 360 := ⟨by kernel_rfl⟩
instance : FldOff Tryz.prog 171 90 361 := ⟨by kernel_rfl⟩
instance : FldOff Tryz.prog 171 91 362 := ⟨by kernel_rfl⟩
instance : FldOff Tryz.prog 171 92 363 := ⟨by kernel_rfl⟩
instance : FldOff Tryz.prog 171 93 364 := ⟨by kernel_rfl⟩
instance : FldOff Tryz.prog 171 94 365 := ⟨by kernel_rfl⟩
instance : FldOff Tryz.prog 171 95 366 := ⟨by kernel_rfl⟩
instance : FldOff Tryz.prog 171 96 368 := ⟨by kernel_rfl⟩
instance : FldOff Tryz.prog 171 97 464 := ⟨by kernel_rfl⟩
instance : FldOff Tryz.prog 187 0 0 := ⟨by kernel_rfl⟩
instance : FldOff Tryz.prog 191 0 0 := ⟨by kernel_rfl⟩
instance : FldOff Tryz.prog 191 1 1 := ⟨by kernel_rfl⟩
instance : FldOff Tryz.prog 191 2 2 := ⟨by kernel_rfl⟩
instance : FldOff Tryz.prog 191 3 3 := ⟨by kernel_rfl⟩
instance : FldOff Tryz.prog 199 0 0 := ⟨by kernel_rfl⟩
instance : FldOff Tryz.prog 199 1 1 := ⟨by kernel_rfl⟩
instance : FldOff Tryz.prog 199 2 2 := ⟨by kernel_rfl⟩
instance : FldOff Tryz.prog 203 0 0 := ⟨by kernel_rfl⟩
instance : FldOff Tryz.prog 203 1 1 := ⟨by kernel_rfl⟩
instance : FldOff Tryz.prog 203 2 2 := ⟨by kernel_rfl⟩
instance : FldOff Tryz.prog 213 0 0 := ⟨by kernel_rfl⟩
instance : FldOff Tryz.prog 213 1 1 := ⟨by kernel_rfl⟩
instance : FldOff Tryz.prog 213 2 2 := ⟨by kernel_rfl⟩
instance : FldOff Tryz.prog 213 3 3 := ⟨by kernel_rfl⟩
instance : FldOff Tryz.prog 213 4 4 := ⟨by kernel_rfl⟩
instance : FldOff Tryz.prog 213 5 5 := ⟨by kernel_rfl⟩
instance : FldOff Tryz.prog 213 6 6 := ⟨by kernel_rfl⟩
instance : FldOff Tryz.prog 213 7 7 := ⟨by kernel_rfl⟩
instance : FldOff Tryz.prog 213 8 8 := ⟨by kernel_rfl⟩
instance : FldOff Tryz.prog 213 9 9 := ⟨by kernel_rfl⟩
instance : FldOff Tryz.prog 213 10 10 := ⟨by kernel_rfl⟩
instance : FldOff Tryz.prog 213 11 11 := ⟨by kernel_rfl⟩
instance : FldOff Tryz.prog 213 12 12 := ⟨by kernel_rfl⟩
instance : FldOff Tryz.prog 213 13 72 := ⟨by kernel_rfl⟩
instance : FldOff Tryz.prog 213 14 73 := ⟨by kernel_rfl⟩
instance : FldOff Tryz.prog 213 15 74 := ⟨by kernel_rfl⟩
instance : FldOff Tryz.prog 213 16 75 := ⟨by kernel_rfl⟩
instance : FldOff Tryz.prog 213 17 76 := ⟨by kernel_rfl⟩
instance : FldOff Tryz.prog 213 18 77 := ⟨by kernel_rfl⟩
instance : FldOff Tryz.prog 213 19 78 := ⟨by kernel_rfl⟩
instance : FldOff Tryz.prog 213 20 79 := ⟨by kernel_rfl⟩
instance : FldOff Tryz.prog 213 21 80 := ⟨by kernel_rfl⟩
instance : FldOff Tryz.prog 213 22 81 := ⟨by kernel_rfl⟩
instance : FldOff Tryz.prog 213 23 82 := ⟨by kernel_rfl⟩
instance : FldOff Tryz.prog 213 24 83 := ⟨by kernel_rfl⟩
instance : FldOff Tryz.prog 213 25 84 := ⟨by kernel_rfl⟩
instance : FldOff Tryz.prog 213 26 85 := ⟨by kernel_rfl⟩
instance : FldOff Tryz.prog 213 27 86 := ⟨by kernel_rfl⟩
instance : FldOff Tryz.prog 213 28 87 := ⟨by kernel_rfl⟩
instance : FldOff Tryz.prog 213 29 88 := ⟨by kernel_rfl⟩
instance : FldOff Tryz.prog 213 30 89 := ⟨by kernel_rfl⟩
instance : FldOff Tryz.prog 213 31 90 := ⟨by kernel_rfl⟩
instance : FldOff Tryz.prog 227 0 0 := ⟨by kernel_rfl⟩
instance : FldOff Tryz.prog 227 1 1 := ⟨by kernel_rfl⟩
instance : FldOff Tryz.prog 227 2 2 := ⟨by kernel_rfl⟩
instance : FldOff Tryz.prog 227 3 3 := ⟨by kernel_rfl⟩
instance : FldOff Tryz.prog 227 4 4 := ⟨by kernel_rfl⟩
instance : FldOff Tryz.prog 229 0 0 := ⟨by kernel_rfl⟩
instance : FldOff Tryz.prog 229 1 1 := ⟨by kernel_rfl⟩
instance : FldOff Tryz.prog 229 2 2 := ⟨by kernel_rfl⟩
instance : FldOff Tryz.prog 229 3 3 := ⟨by kernel_rfl⟩
instance : FldOff Tryz.prog 231 0 0 := ⟨by kernel_rfl⟩
instance : FldOff Tryz.prog 231 1 5 := ⟨by kernel_rfl⟩
instance : FldOff Tryz.prog 236 0 0 := ⟨by kernel_rfl⟩
instance : FldOff Tryz.prog 236 1 1 := ⟨by kernel_rfl⟩
instance : FldOff Tryz.prog 236 2 2 := ⟨by kernel_rfl⟩
instance : FldOff Tryz.prog 236 3 3 := ⟨by kernel_rfl⟩
instance : FldOff Tryz.prog 238 0 0 := ⟨by kernel_rfl⟩
instance : FldOff Tryz.prog 238 1 5 := ⟨by kernel_rfl⟩
instance : FldOff Tryz.prog 240 0 0 := ⟨by kernel_rfl⟩
instance : FldOff Tryz.prog 240 1 5 := ⟨by kernel_rfl⟩
instance : FldOff Tryz.prog 243 0 0 := ⟨by kernel_rfl⟩
instance : FldOff Tryz.prog 243 1 1 := ⟨by kernel_rfl⟩
instance : FldOff Tryz.prog 249 0 0 := ⟨by kernel_rfl⟩
instance : FldOff Tryz.prog 249 1 1 := ⟨by kernel_rfl⟩
instance : FldOff Tryz.prog 249 2 2 := ⟨by kernel_rfl⟩
instance : FldOff Tryz.prog 249 3 3 := ⟨by kernel_rfl⟩
instance : OneCell Tryz.prog 2 := ⟨by kernel_rfl⟩
instance : OneCell Tryz.prog 3 := ⟨by kernel_rfl⟩
instance : OneCell Tryz.prog 4 := ⟨by kernel_rfl⟩
instance : OneCell Tryz.prog 5 := ⟨by kernel_rfl⟩
instance : OneCell Tryz.prog 9 := ⟨by kernel_rfl⟩
instance : OneCell Tryz.prog 22 := ⟨by kernel_rfl⟩
instance : OneCell Tryz.prog 23 := ⟨by kernel_rfl⟩
instance : OneCell Tryz.prog 24 := ⟨by kernel_rfl⟩
instance : OneCell Tryz.prog 27 := ⟨by kernel_rfl⟩
instance : OneCell Tryz.prog 30 := ⟨by kernel_rfl⟩
instance : OneCell Tryz.prog 40 := ⟨by kernel_rfl⟩
instance : OneCell Tryz.prog 46 := ⟨by kernel_rfl⟩
instance : OneCell Tryz.prog 47 := ⟨by kernel_rfl⟩
instance : OneCell Tryz.prog 60 := ⟨by kernel_rfl⟩
instance : OneCell Tryz.prog 61 := ⟨by kernel_rfl⟩
instance : OneCell Tryz.prog 64 := ⟨by kernel_rfl⟩
instance : OneCell Tryz.prog 77 := ⟨by kernel_rfl⟩
instance : OneCell Tryz.prog 81 := ⟨by kernel_rfl⟩
instance : OneCell Tryz.prog 84 := ⟨by kernel_rfl⟩
instance : OneCell Tryz.prog 89 := ⟨by kernel_rfl⟩
instance : OneCell Tryz.prog 101 := ⟨by kernel_rfl⟩
instance : OneCell Tryz.prog 109 := ⟨by kernel_rfl⟩
instance : OneCell Tryz.prog 110 := ⟨by kernel_rfl⟩
instance : OneCell Tryz.prog 117 := ⟨by kernel_rfl⟩
instance : OneCell Tryz.prog 120 := ⟨by kernel_rfl⟩
instance : OneCell Tryz.prog 121 := ⟨by kernel_rfl⟩
instance : OneCell Tryz.prog 123 := ⟨by kernel_rfl⟩
instance : OneCell Tryz.prog 152 := ⟨by kernel_rfl⟩
instance : OneCell Tryz.prog 158 := ⟨by kernel_rfl⟩
instance : OneCell Tryz.prog 159 := ⟨by kernel_rfl⟩
instance : OneCell Tryz.prog 160 := ⟨by kernel_rfl⟩
instance : OneCell Tryz.prog 189 := ⟨by kernel_rfl⟩
instance : OneCell Tryz.prog 195 := ⟨by kernel_rfl⟩
instance : OneCell Tryz.prog 247 := ⟨by kernel_rfl⟩
instance : AggSz Tryz.prog 26 3 := ⟨by kernel_rfl⟩
instance : AggSz Tryz.prog 29 20 := ⟨by kernel_rfl⟩
instance : AggSz Tryz.prog 35 24 := ⟨by kernel_rfl⟩
instance : AggSz Tryz.prog 42 1 := ⟨by kernel_rfl⟩
instance : AggSz Tryz.prog 45 2 := ⟨by kernel_rfl⟩
instance : AggSz Tryz.prog 49 18 := ⟨by kernel_rfl⟩
instance : AggSz Tryz.prog 63 11 := ⟨by kernel_rfl⟩
instance : AggSz Tryz.prog 66 23 := ⟨by kernel_rfl⟩
instance : AggSz Tryz.prog 69 2 := ⟨by kernel_rfl⟩
instance : AggSz Tryz.prog 72 3 := ⟨by kernel_rfl⟩
instance : AggSz Tryz.prog 74 2 := ⟨by kernel_rfl⟩
instance : AggSz Tryz.prog 79 2 := ⟨by kernel_rfl⟩
instance : AggSz Tryz.prog 87 22 := ⟨by kernel_rfl⟩
instance : AggSz Tryz.prog 112 12 := ⟨by kernel_rfl⟩
instance : AggSz Tryz.prog 116 3 := ⟨by kernel_rfl⟩
instance : AggSz Tryz.prog 119 20 := ⟨by kernel_rfl⟩
instance : AggSz Tryz.prog 125 18 := ⟨by kernel_rfl⟩
instance : AggSz Tryz.prog 148 1 := ⟨by kernel_rfl⟩
instance : AggSz Tryz.prog 154 12 := ⟨by kernel_rfl⟩
instance : AggSz Tryz.prog 161 16 := ⟨by kernel_rfl⟩
instance : AggSz Tryz.prog 162 64 := ⟨by kernel_rfl⟩
instance : AggSz Tryz.prog 163 4 := ⟨by kernel_rfl⟩
instance : AggSz Tryz.prog 164 17 := ⟨by kernel_rfl⟩
instance : AggSz Tryz.prog 165 32 := ⟨by kernel_rfl⟩
instance : AggSz Tryz.prog 166 2 := ⟨by kernel_rfl⟩
instance : AggSz Tryz.prog 167 4 := ⟨by kernel_rfl⟩
instance : AggSz Tryz.prog 168 2 := ⟨by kernel_rfl⟩
instance : AggSz Tryz.prog 169 96 := ⟨by kernel_rfl⟩
instance : AggSz Tryz.prog 171 465 := ⟨by kernel_rfl⟩
instance : AggSz Tryz.prog 187 1 := ⟨by kernel_rfl⟩
instance : AggSz Tryz.prog 199 3 := ⟨by kernel_rfl⟩
instance : AggSz Tryz.prog 203 3 := ⟨by kernel_rfl⟩
instance : AggSz Tryz.prog 211 60 := ⟨by kernel_rfl⟩
instance : AggSz Tryz.prog 213 91 := ⟨by kernel_rfl⟩
instance : AggSz Tryz.prog 214 3 := ⟨by kernel_rfl⟩
instance : AggSz Tryz.prog 227 5 := ⟨by kernel_rfl⟩
instance : AggSz Tryz.prog 229 4 := ⟨by kernel_rfl⟩
instance : AggSz Tryz.prog 230 16 := ⟨by kernel_rfl⟩
instance : AggSz Tryz.prog 236 4 := ⟨by kernel_rfl⟩
instance : AggSz Tryz.prog 237 16 := ⟨by kernel_rfl⟩
instance : AggSz Tryz.prog 239 1360 := ⟨by kernel_rfl⟩
instance : AggSz Tryz.prog 243 2 := ⟨by kernel_rfl⟩
instance : AggSz Tryz.prog 244 14 := ⟨by kernel_rfl⟩
instance : AggSz Tryz.prog 249 4 := ⟨by kernel_rfl⟩
instance : SlTy Tryz.prog 22 9 1 := ⟨by kernel_rfl⟩
instance : SlTy Tryz.prog 27 74 2 := ⟨by kernel_rfl⟩
instance : SlTy Tryz.prog 30 5 1 := ⟨by kernel_rfl⟩
instance : SlTy Tryz.prog 36 35 24 := ⟨by kernel_rfl⟩
instance : SlTy Tryz.prog 40 49 18 := ⟨by kernel_rfl⟩
instance : SlTy Tryz.prog 46 69 2 := ⟨by kernel_rfl⟩
instance : SlTy Tryz.prog 47 3 1 := ⟨by kernel_rfl⟩
instance : SlTy Tryz.prog 55 87 22 := ⟨by kernel_rfl⟩
instance : SlTy Tryz.prog 60 66 23 := ⟨by kernel_rfl⟩
instance : SlTy Tryz.prog 64 72 3 := ⟨by kernel_rfl⟩
instance : SlTy Tryz.prog 83 81 1 := ⟨by kernel_rfl⟩
instance : SlTy Tryz.prog 109 110 1 := ⟨by kernel_rfl⟩
instance : SlTy Tryz.prog 149 154 12 := ⟨by kernel_rfl⟩
instance : SlTy Tryz.prog 176 4 1 := ⟨by kernel_rfl⟩
instance : SlTy Tryz.prog 177 61 1 := ⟨by kernel_rfl⟩
instance : SlTy Tryz.prog 189 199 3 := ⟨by kernel_rfl⟩
instance : SlTy Tryz.prog 222 45 2 := ⟨by kernel_rfl⟩
instance : SlTy Tryz.prog 234 229 4 := ⟨by kernel_rfl⟩
instance : IntTy Tryz.prog 2 .i64 := ⟨by kernel_rfl⟩
instance : IntTy Tryz.prog 3 .i64 := ⟨by kernel_rfl⟩
instance : IntTy Tryz.prog 5 .u8 := ⟨by kernel_rfl⟩
instance : IntTy Tryz.prog 21 .i32 := ⟨by kernel_rfl⟩
instance : IntTy Tryz.prog 23 .u16 := ⟨by kernel_rfl⟩
instance : IntTy Tryz.prog 24 .u32 := ⟨by kernel_rfl⟩
instance : IntTy Tryz.prog 61 .u64 := ⟨by kernel_rfl⟩
instance : IntTy Tryz.prog 120 .u32 := ⟨by kernel_rfl⟩
instance : ZeroOf Tryz.prog 3 [.int .i64 0] := ⟨by kernel_rfl⟩
instance : ZeroOf Tryz.prog 4 [.bool false] := ⟨by kernel_rfl⟩
instance : ZeroOf Tryz.prog 5 [.int .u8 0] := ⟨by kernel_rfl⟩
instance : ZeroOf Tryz.prog 9 [.string ⟨#[]⟩] := ⟨by kernel_rfl⟩
instance : ZeroOf Tryz.prog 22 [.slice none 0 0] := ⟨by kernel_rfl⟩
instance : ZeroOf Tryz.prog 26 [.bool false, .int .i64 0, .int .i64 0] := ⟨by kernel_rfl⟩
instance : ZeroOf Tryz.prog 29 [.string ⟨#[]⟩, .int .i64 0, .int .u16 0, .int .u32 0, .int .u32 0, .bool false, .int .i64 0, .int .i64 0, .bool false, .int .i64 0, .int .i64 0, .bool false, .int .i64 0, .int .i64 0, .bool false, .int .i64 0, .int .i64 0, .int .u32 0, .int .u32 0, .slice none 0 0] := ⟨by kernel_rfl⟩
instance : ZeroOf Tryz.prog 30 [.slice none 0 0] := ⟨by kernel_rfl⟩
instance : ZeroOf Tryz.prog 35 [.int .i64 0, .string ⟨#[]⟩, .string ⟨#[]⟩, .string ⟨#[]⟩, .int .i64 0, .int .u16 0, .int .u32 0, .int .u32 0, .bool false, .int .i64 0, .int .i64 0, .bool false, .int .i64 0, .int .i64 0, .bool false, .int .i64 0, .int .i64 0, .bool false, .int .i64 0, .int .i64 0, .int .u32 0, .int .u32 0, .slice none 0 0, .slice none 0 0] := ⟨by kernel_rfl⟩
instance : ZeroOf Tryz.prog 42 [.slice none 0 0] := ⟨by kernel_rfl⟩
instance : ZeroOf Tryz.prog 45 [.int .i64 0, .int .i64 0] := ⟨by kernel_rfl⟩
instance : ZeroOf Tryz.prog 49 [.int .u16 0, .int .u32 0, .int .u32 0, .int .i64 0, .int .i64 0, .int .i64 0, .int .i64 0, .int .i64 0, .int .i64 0, .int .i64 0, .int .i64 0, .int .u32 0, .int .u32 0, .slice none 0 0, .string ⟨#[]⟩, .slice none 0 0, .slice none 0 0, .slice none 0 0] := ⟨by kernel_rfl⟩
instance : ZeroOf Tryz.prog 61 [.int .u64 0] := ⟨by kernel_rfl⟩
instance : ZeroOf Tryz.prog 66 [.int .u64 0, .int .u16 0, .int .u32 0, .int .u32 0, .int .u64 0, .int .u64 0, .int .u64 0, .int .u64 0, .int .i64 0, .int .i64 0, .int .i64 0, .int .i64 0, .int .i64 0, .int .i64 0, .int .i64 0, .int .i64 0, .int .u32 0, .int .u32 0, .slice none 0 0, .slice none 0 0, .slice none 0 0, .bool false, .int .u64 0] := ⟨by kernel_rfl⟩
instance : ZeroOf Tryz.prog 69 [.string ⟨#[]⟩, .slice none 0 0] := ⟨by kernel_rfl⟩
instance : ZeroOf Tryz.prog 72 [.string ⟨#[]⟩, .int .u64 0, .int .u64 0] := ⟨by kernel_rfl⟩
instance : ZeroOf Tryz.prog 74 [.string ⟨#[]⟩, .slice none 0 0] := ⟨by kernel_rfl⟩
instance : ZeroOf Tryz.prog 81 [.nilFunc] := ⟨by kernel_rfl⟩
instance : ZeroOf Tryz.prog 87 [.int .i64 0, .int .i64 0, .string ⟨#[]⟩, .int .i64 0, .int .u16 0, .int .u32 0, .int .u32 0, .bool false, .int .i64 0, .int .i64 0, .bool false, .int .i64 0, .int .i64 0, .bool false, .int .i64 0, .int .i64 0, .bool false, .int .i64 0, .int .i64 0, .int .u32 0, .int .u32 0, .slice none 0 0] := ⟨by kernel_rfl⟩
instance : ZeroOf Tryz.prog 101 [.nilFunc] := ⟨by kernel_rfl⟩
instance : ZeroOf Tryz.prog 110 [.pointer none] := ⟨by kernel_rfl⟩
instance : ZeroOf Tryz.prog 116 [.bool false, .int .i64 0, .int .i64 0] := ⟨by kernel_rfl⟩
instance : ZeroOf Tryz.prog 148 [.int .i64 0] := ⟨by kernel_rfl⟩
instance : ZeroOf Tryz.prog 154 [.int .u32 0, .int .u32 0, .int .u32 0, .int .u16 0, .int .u16 0, .int .u16 0, .int .u16 0, .int .u32 0, .int .u16 0, .int .u16 0, .int .u16 0, .int .u16 0] := ⟨by kernel_rfl⟩
instance : ZeroOf Tryz.prog 167 [.int .u8 0, .int .u8 0, .int .u8 0, .int .u8 0] := ⟨by kernel_rfl⟩
instance : ZeroOf Tryz.prog 191 [.slice none 0 0, .slice none 0 0, .int .i64 0, .int .i64 0] := ⟨by kernel_rfl⟩
instance : ZeroOf Tryz.prog 199 [.string ⟨#[]⟩, .int .u8 0, .slice none 0 0] := ⟨by kernel_rfl⟩
instance : ZeroOf Tryz.prog 203 [.string ⟨#[]⟩, .slice none 0 0, .int .i64 0] := ⟨by kernel_rfl⟩
instance : ZeroOf Tryz.prog 214 [.string ⟨#[]⟩, .int .u8 0, .slice none 0 0] := ⟨by kernel_rfl⟩
instance : ZeroOf Tryz.prog 229 [.int .u32 0, .int .u16 0, .int .u16 0, .int .u32 0] := ⟨by kernel_rfl⟩
instance : ZeroOf Tryz.prog 231 [.int .u16 0, .int .u16 0, .int .u16 0, .int .u16 0, .int .u32 0, .int .u32 0, .int .u16 0, .int .u16 0, .int .u32 0, .int .u32 0, .int .u16 0, .int .u16 0, .int .u32 0, .int .u32 0, .int .u16 0, .int .u16 0, .int .u32 0, .int .u32 0, .int .u16 0, .int .u16 0, .int .u32 0] := ⟨by kernel_rfl⟩
instance : ZeroOf Tryz.prog 236 [.int .u32 0, .int .u32 0, .int .u16 0, .int .u16 0] := ⟨by kernel_rfl⟩
instance : ZeroOf Tryz.prog 238 [.int .u16 0, .int .u16 0, .int .u16 0, .int .u16 0, .int .u32 0, .int .u32 0, .int .u32 0, .int .u16 0, .int .u16 0, .int .u32 0, .int .u32 0, .int .u16 0, .int .u16 0, .int .u32 0, .int .u32 0, .int .u16 0, .int .u16 0, .int .u32 0, .int .u32 0, .int .u16 0, .int .u16 0] := ⟨by kernel_rfl⟩
instance : ZeroOf Tryz.prog 243 [.int .u8 0, .string ⟨#[]⟩] := ⟨by kernel_rfl⟩
instance : ZeroOf Tryz.prog 249 [.int .u32 0, .int .u16 0, .int .u8 0, .int .u8 0] := ⟨by kernel_rfl⟩
instance : SlE Tryz.prog 22 9 1 16 [.string ⟨#[]⟩] := ⟨by kernel_rfl, by kernel_rfl⟩
instance : SlE Tryz.prog 27 74 2 40 [.string ⟨#[]⟩, .slice none 0 0] := ⟨by kernel_rfl, by kernel_rfl⟩
instance : SlE Tryz.prog 30 5 1 1 [.int .u8 0] := ⟨by kernel_rfl, by kernel_rfl⟩
instance : SlE Tryz.prog 36 35 24 232 [.int .i64 0, .string ⟨#[]⟩, .string ⟨#[]⟩, .string ⟨#[]⟩, .int .i64 0, .int .u16 0, .int .u32 0, .int .u32 0, .bool false, .int .i64 0, .int .i64 0, .bool false, .int .i64 0, .int .i64 0, .bool false, .int .i64 0, .int .i64 0, .bool false, .int .i64 0, .int .i64 0, .int .u32 0, .int .u32 0, .slice none 0 0, .slice none 0 0] := ⟨by kernel_rfl, by kernel_rfl⟩
instance : SlE Tryz.prog 40 49 18 200 [.int .u16 0, .int .u32 0, .int .u32 0, .int .i64 0, .int .i64 0, .int .i64 0, .int .i64 0, .int .i64 0, .int .i64 0, .int .i64 0, .int .i64 0, .int .u32 0, .int .u32 0, .slice none 0 0, .string ⟨#[]⟩, .slice none 0 0, .slice none 0 0, .slice none 0 0] := ⟨by kernel_rfl, by kernel_rfl⟩
instance : SlE Tryz.prog 46 69 2 40 [.string ⟨#[]⟩, .slice none 0 0] := ⟨by kernel_rfl, by kernel_rfl⟩
instance : SlE Tryz.prog 47 3 1 8 [.int .i64 0] := ⟨by kernel_rfl, by kernel_rfl⟩
instance : SlE Tryz.prog 55 87 22 184 [.int .i64 0, .int .i64 0, .string ⟨#[]⟩, .int .i64 0, .int .u16 0, .int .u32 0, .int .u32 0, .bool false, .int .i64 0, .int .i64 0, .bool false, .int .i64 0, .int .i64 0, .bool false, .int .i64 0, .int .i64 0, .bool false, .int .i64 0, .int .i64 0, .int .u32 0, .int .u32 0, .slice none 0 0] := ⟨by kernel_rfl, by kernel_rfl⟩
instance : SlE Tryz.prog 60 66 23 216 [.int .u64 0, .int .u16 0, .int .u32 0, .int .u32 0, .int .u64 0, .int .u64 0, .int .u64 0, .int .u64 0, .int .i64 0, .int .i64 0, .int .i64 0, .int .i64 0, .int .i64 0, .int .i64 0, .int .i64 0, .int .i64 0, .int .u32 0, .int .u32 0, .slice none 0 0, .slice none 0 0, .slice none 0 0, .bool false, .int .u64 0] := ⟨by kernel_rfl, by kernel_rfl⟩
instance : SlE Tryz.prog 64 72 3 32 [.string ⟨#[]⟩, .int .u64 0, .int .u64 0] := ⟨by kernel_rfl, by kernel_rfl⟩
instance : SlE Tryz.prog 83 81 1 8 [.nilFunc] := ⟨by kernel_rfl, by kernel_rfl⟩
instance : SlE Tryz.prog 109 110 1 8 [.pointer none] := ⟨by kernel_rfl, by kernel_rfl⟩
instance : SlE Tryz.prog 149 154 12 32 [.int .u32 0, .int .u32 0, .int .u32 0, .int .u16 0, .int .u16 0, .int .u16 0, .int .u16 0, .int .u32 0, .int .u16 0, .int .u16 0, .int .u16 0, .int .u16 0] := ⟨by kernel_rfl, by kernel_rfl⟩
instance : SlE Tryz.prog 176 4 1 1 [.bool false] := ⟨by kernel_rfl, by kernel_rfl⟩
instance : SlE Tryz.prog 177 61 1 8 [.int .u64 0] := ⟨by kernel_rfl, by kernel_rfl⟩
instance : SlE Tryz.prog 189 199 3 48 [.string ⟨#[]⟩, .int .u8 0, .slice none 0 0] := ⟨by kernel_rfl, by kernel_rfl⟩
instance : SlE Tryz.prog 222 45 2 16 [.int .i64 0, .int .i64 0] := ⟨by kernel_rfl, by kernel_rfl⟩
instance : SlE Tryz.prog 234 229 4 12 [.int .u32 0, .int .u16 0, .int .u16 0, .int .u32 0] := ⟨by kernel_rfl, by kernel_rfl⟩
instance : ArrTy Tryz.prog 133 4096 5 1 := ⟨by kernel_rfl, by kernel_rfl⟩
instance : ArrTy Tryz.prog 150 8192 5 1 := ⟨by kernel_rfl, by kernel_rfl⟩
instance : ArrTy Tryz.prog 161 16 5 1 := ⟨by kernel_rfl, by kernel_rfl⟩
instance : ArrTy Tryz.prog 162 64 5 1 := ⟨by kernel_rfl, by kernel_rfl⟩
instance : ArrTy Tryz.prog 163 4 24 1 := ⟨by kernel_rfl, by kernel_rfl⟩
instance : ArrTy Tryz.prog 164 17 24 1 := ⟨by kernel_rfl, by kernel_rfl⟩
instance : ArrTy Tryz.prog 165 32 5 1 := ⟨by kernel_rfl, by kernel_rfl⟩
instance : ArrTy Tryz.prog 166 2 24 1 := ⟨by kernel_rfl, by kernel_rfl⟩
instance : ArrTy Tryz.prog 167 4 5 1 := ⟨by kernel_rfl, by kernel_rfl⟩
instance : ArrTy Tryz.prog 168 2 5 1 := ⟨by kernel_rfl, by kernel_rfl⟩
instance : ArrTy Tryz.prog 169 96 24 1 := ⟨by kernel_rfl, by kernel_rfl⟩
instance : ArrTy Tryz.prog 211 60 5 1 := ⟨by kernel_rfl, by kernel_rfl⟩
instance : ArrTy Tryz.prog 214 1 199 3 := ⟨by kernel_rfl, by kernel_rfl⟩
instance : ArrTy Tryz.prog 230 4 229 4 := ⟨by kernel_rfl, by kernel_rfl⟩
instance : ArrTy Tryz.prog 237 4 236 4 := ⟨by kernel_rfl, by kernel_rfl⟩
instance : ArrTy Tryz.prog 239 340 229 4 := ⟨by kernel_rfl, by kernel_rfl⟩
instance : ArrTy Tryz.prog 244 7 243 2 := ⟨by kernel_rfl, by kernel_rfl⟩
instance : MapTy Tryz.prog 117 9 30 (.slice none 0 0) := ⟨by kernel_rfl, by kernel_rfl, by kernel_rfl⟩
instance : MapTy Tryz.prog 122 9 110 (.pointer none) := ⟨by kernel_rfl, by kernel_rfl, by kernel_rfl⟩
instance : MapTy Tryz.prog 123 9 110 (.pointer none) := ⟨by kernel_rfl, by kernel_rfl, by kernel_rfl⟩
instance : FldV Tryz.prog 26 0 0 none := ⟨by kernel_rfl⟩
instance : FldV Tryz.prog 26 1 1 none := ⟨by kernel_rfl⟩
instance : FldV Tryz.prog 26 2 2 none := ⟨by kernel_rfl⟩
instance : FldV Tryz.prog 29 0 0 none := ⟨by kernel_rfl⟩
instance : FldV Tryz.prog 29 1 1 none := ⟨by kernel_rfl⟩
instance : FldV Tryz.prog 29 2 2 none := ⟨by kernel_rfl⟩
instance : FldV Tryz.prog 29 3 3 none := ⟨by kernel_rfl⟩
instance : FldV Tryz.prog 29 4 4 none := ⟨by kernel_rfl⟩
instance : FldV Tryz.prog 29 5 5 (some 3) := ⟨by kernel_rfl⟩
instance : FldV Tryz.prog 29 6 8 (some 3) := ⟨by kernel_rfl⟩
instance : FldV Tryz.prog 29 7 11 (some 3) := ⟨by kernel_rfl⟩
instance : FldV Tryz.prog 29 8 14 (some 3) := ⟨by kernel_rfl⟩
instance : FldV Tryz.prog 29 9 17 none := ⟨by kernel_rfl⟩
instance : FldV Tryz.prog 29 10 18 none := ⟨by kernel_rfl⟩
instance : FldV Tryz.prog 29 11 19 none := ⟨by kernel_rfl⟩
instance : FldV Tryz.prog 35 0 0 none := ⟨by kernel_rfl⟩
instance : FldV Tryz.prog 35 1 1 none := ⟨by kernel_rfl⟩
instance : FldV Tryz.prog 35 2 2 none := ⟨by kernel_rfl⟩
instance : FldV Tryz.prog 35 3 3 (some 20) := ⟨by kernel_rfl⟩
instance : FldV Tryz.prog 35 4 23 none := ⟨by kernel_rfl⟩
instance : FldV Tryz.prog 42 0 0 none := ⟨by kernel_rfl⟩
instance : FldV Tryz.prog 45 0 0 none := ⟨by kernel_rfl⟩
instance : FldV Tryz.prog 45 1 1 none := ⟨by kernel_rfl⟩
instance : FldV Tryz.prog 49 0 0 none := ⟨by kernel_rfl⟩
instance : FldV Tryz.prog 49 1 1 none := ⟨by kernel_rfl⟩
instance : FldV Tryz.prog 49 2 2 none := ⟨by kernel_rfl⟩
instance : FldV Tryz.prog 49 3 3 (some 2) := ⟨by kernel_rfl⟩
instance : FldV Tryz.prog 49 4 5 (some 2) := ⟨by kernel_rfl⟩
instance : FldV Tryz.prog 49 5 7 (some 2) := ⟨by kernel_rfl⟩
instance : FldV Tryz.prog 49 6 9 (some 2) := ⟨by kernel_rfl⟩
instance : FldV Tryz.prog 49 7 11 none := ⟨by kernel_rfl⟩
instance : FldV Tryz.prog 49 8 12 none := ⟨by kernel_rfl⟩
instance : FldV Tryz.prog 49 9 13 none := ⟨by kernel_rfl⟩
instance : FldV Tryz.prog 49 10 14 none := ⟨by kernel_rfl⟩
instance : FldV Tryz.prog 49 11 15 none := ⟨by kernel_rfl⟩
instance : FldV Tryz.prog 49 12 16 none := ⟨by kernel_rfl⟩
instance : FldV Tryz.prog 49 13 17 none := ⟨by kernel_rfl⟩
instance : FldV Tryz.prog 63 0 0 none := ⟨by kernel_rfl⟩
instance : FldV Tryz.prog 63 1 1 none := ⟨by kernel_rfl⟩
instance : FldV Tryz.prog 63 2 2 none := ⟨by kernel_rfl⟩
instance : FldV Tryz.prog 63 3 3 none := ⟨by kernel_rfl⟩
instance : FldV Tryz.prog 63 4 4 none := ⟨by kernel_rfl⟩
instance : FldV Tryz.prog 63 5 5 none := ⟨by kernel_rfl⟩
instance : FldV Tryz.prog 63 6 6 none := ⟨by kernel_rfl⟩
instance : FldV Tryz.prog 63 7 7 none := ⟨by kernel_rfl⟩
instance : FldV Tryz.prog 63 8 8 none := ⟨by kernel_rfl⟩
instance : FldV Tryz.prog 63 9 9 none := ⟨by kernel_rfl⟩
instance : FldV Tryz.prog 63 10 10 none := ⟨by kernel_rfl⟩
instance : FldV Tryz.prog 66 0 0 none := ⟨by kernel_rfl⟩
instance : FldV Tryz.prog 66 1 1 none := ⟨by kernel_rfl⟩
instance : FldV Tryz.prog 66 2 2 none := ⟨by kernel_rfl⟩
instance : FldV Tryz.prog 66 3 3 none := ⟨by kernel_rfl⟩
instance : FldV Tryz.prog 66 4 4 none := ⟨by kernel_rfl⟩
instance : FldV Tryz.prog 66 5 5 none := ⟨by kernel_rfl⟩
instance : FldV Tryz.prog 66 6 6 none := ⟨by kernel_rfl⟩
instance : FldV Tryz.prog 66 7 7 none := ⟨by kernel_rfl⟩
instance : FldV Tryz.prog 66 8 8 (some 2) := ⟨by kernel_rfl⟩
instance : FldV Tryz.prog 66 9 10 (some 2) := ⟨by kernel_rfl⟩
instance : FldV Tryz.prog 66 10 12 (some 2) := ⟨by kernel_rfl⟩
instance : FldV Tryz.prog 66 11 14 (some 2) := ⟨by kernel_rfl⟩
instance : FldV Tryz.prog 66 12 16 none := ⟨by kernel_rfl⟩
instance : FldV Tryz.prog 66 13 17 none := ⟨by kernel_rfl⟩
instance : FldV Tryz.prog 66 14 18 none := ⟨by kernel_rfl⟩
instance : FldV Tryz.prog 66 15 19 none := ⟨by kernel_rfl⟩
instance : FldV Tryz.prog 66 16 20 none := ⟨by kernel_rfl⟩
instance : FldV Tryz.prog 66 17 21 none := ⟨by kernel_rfl⟩
instance : FldV Tryz.prog 66 18 22 none := ⟨by kernel_rfl⟩
instance : FldV Tryz.prog 69 0 0 none := ⟨by kernel_rfl⟩
instance : FldV Tryz.prog 69 1 1 none := ⟨by kernel_rfl⟩
instance : FldV Tryz.prog 72 0 0 none := ⟨by kernel_rfl⟩
instance : FldV Tryz.prog 72 1 1 none := ⟨by kernel_rfl⟩
instance : FldV Tryz.prog 72 2 2 none := ⟨by kernel_rfl⟩
instance : FldV Tryz.prog 74 0 0 none := ⟨by kernel_rfl⟩
instance : FldV Tryz.prog 74 1 1 none := ⟨by kernel_rfl⟩
instance : FldV Tryz.prog 79 0 0 none := ⟨by kernel_rfl⟩
instance : FldV Tryz.prog 79 1 1 none := ⟨by kernel_rfl⟩
instance : FldV Tryz.prog 87 0 0 none := ⟨by kernel_rfl⟩
instance : FldV Tryz.prog 87 1 1 none := ⟨by kernel_rfl⟩
instance : FldV Tryz.prog 87 2 2 (some 20) := ⟨by kernel_rfl⟩
instance : FldV Tryz.prog 112 0 0 none := ⟨by kernel_rfl⟩
instance : FldV Tryz.prog 112 1 1 none := ⟨by kernel_rfl⟩
instance : FldV Tryz.prog 112 2 2 none := ⟨by kernel_rfl⟩
instance : FldV Tryz.prog 112 3 3 none := ⟨by kernel_rfl⟩
instance : FldV Tryz.prog 112 4 4 none := ⟨by kernel_rfl⟩
instance : FldV Tryz.prog 112 5 5 none := ⟨by kernel_rfl⟩
instance : FldV Tryz.prog 112 6 6 none := ⟨by kernel_rfl⟩
instance : FldV Tryz.prog 112 7 7 none := ⟨by kernel_rfl⟩
instance : FldV Tryz.prog 112 8 8 none := ⟨by kernel_rfl⟩
instance : FldV Tryz.prog 112 9 9 none := ⟨by kernel_rfl⟩
instance : FldV Tryz.prog 112 10 10 none := ⟨by kernel_rfl⟩
instance : FldV Tryz.prog 112 11 11 none := ⟨by kernel_rfl⟩
instance : FldV Tryz.prog 116 0 0 none := ⟨by kernel_rfl⟩
instance : FldV Tryz.prog 116 1 1 none := ⟨by kernel_rfl⟩
instance : FldV Tryz.prog 116 2 2 none := ⟨by kernel_rfl⟩
instance : FldV Tryz.prog 119 0 0 none := ⟨by kernel_rfl⟩
instance : FldV Tryz.prog 119 1 1 none := ⟨by kernel_rfl⟩
instance : FldV Tryz.prog 119 2 2 none := ⟨by kernel_rfl⟩
instance : FldV Tryz.prog 119 3 3 none := ⟨by kernel_rfl⟩
instance : FldV Tryz.prog 119 4 4 none := ⟨by kernel_rfl⟩
instance : FldV Tryz.prog 119 5 5 (some 3) := ⟨by kernel_rfl⟩
instance : FldV Tryz.prog 119 6 8 (some 3) := ⟨by kernel_rfl⟩
instance : FldV Tryz.prog 119 7 11 (some 3) := ⟨by kernel_rfl⟩
instance : FldV Tryz.prog 119 8 14 (some 3) := ⟨by kernel_rfl⟩
instance : FldV Tryz.prog 119 9 17 none := ⟨by kernel_rfl⟩
instance : FldV Tryz.prog 119 10 18 none := ⟨by kernel_rfl⟩
instance : FldV Tryz.prog 119 11 19 none := ⟨by kernel_rfl⟩
instance : FldV Tryz.prog 125 0 0 none := ⟨by kernel_rfl⟩
instance : FldV Tryz.prog 125 1 1 none := ⟨by kernel_rfl⟩
instance : FldV Tryz.prog 125 2 2 none := ⟨by kernel_rfl⟩
instance : FldV Tryz.prog 125 3 3 none := ⟨by kernel_rfl⟩
instance : FldV Tryz.prog 125 4 4 none := ⟨by kernel_rfl⟩
instance : FldV Tryz.prog 125 5 5 none := ⟨by kernel_rfl⟩
instance : FldV Tryz.prog 125 6 6 none := ⟨by kernel_rfl⟩
instance : FldV Tryz.prog 125 7 7 none := ⟨by kernel_rfl⟩
instance : FldV Tryz.prog 125 8 8 none := ⟨by kernel_rfl⟩
instance : FldV Tryz.prog 125 9 9 none := ⟨by kernel_rfl⟩
instance : FldV Tryz.prog 125 10 10 none := ⟨by kernel_rfl⟩
instance : FldV Tryz.prog 125 11 11 none := ⟨by kernel_rfl⟩
instance : FldV Tryz.prog 125 12 12 none := ⟨by kernel_rfl⟩
instance : FldV Tryz.prog 125 13 13 none := ⟨by kernel_rfl⟩
instance : FldV Tryz.prog 125 14 14 none := ⟨by kernel_rfl⟩
instance : FldV Tryz.prog 125 15 15 none := ⟨by kernel_rfl⟩
instance : FldV Tryz.prog 125 16 16 none := ⟨by kernel_rfl⟩
instance : FldV Tryz.prog 125 17 17 none := ⟨by kernel_rfl⟩
instance : FldV Tryz.prog 148 0 0 none := ⟨by kernel_rfl⟩
instance : FldV Tryz.prog 154 0 0 none := ⟨by kernel_rfl⟩
instance : FldV Tryz.prog 154 1 1 none := ⟨by kernel_rfl⟩
instance : FldV Tryz.prog 154 2 2 none := ⟨by kernel_rfl⟩
instance : FldV Tryz.prog 154 3 3 none := ⟨by kernel_rfl⟩
instance : FldV Tryz.prog 154 4 4 none := ⟨by kernel_rfl⟩
instance : FldV Tryz.prog 154 5 5 none := ⟨by kernel_rfl⟩
instance : FldV Tryz.prog 154 6 6 none := ⟨by kernel_rfl⟩
instance : FldV Tryz.prog 154 7 7 none := ⟨by kernel_rfl⟩
instance : FldV Tryz.prog 154 8 8 none := ⟨by kernel_rfl⟩
instance : FldV Tryz.prog 154 9 9 none := ⟨by kernel_rfl⟩
instance : FldV Tryz.prog 154 10 10 none := ⟨by kernel_rfl⟩
instance : FldV Tryz.prog 154 11 11 none := ⟨by kernel_rfl⟩
instance : FldV Tryz.prog 171 0 0 none := ⟨by kernel_rfl⟩
instance : FldV Tryz.prog 171 1 1 none := ⟨by kernel_rfl⟩
instance : FldV Tryz.prog 171 2 2 none := ⟨by kernel_rfl⟩
instance : FldV Tryz.prog 171 3 3 none := ⟨by kernel_rfl⟩
instance : FldV Tryz.prog 171 4 4 none := ⟨by kernel_rfl⟩
instance : FldV Tryz.prog 171 5 5 none := ⟨by kernel_rfl⟩
instance : FldV Tryz.prog 171 6 6 none := ⟨by kernel_rfl⟩
instance : FldV Tryz.prog 171 7 7 none := ⟨by kernel_rfl⟩
instance : FldV Tryz.prog 171 8 8 none := ⟨by kernel_rfl⟩
instance : FldV Tryz.prog 171 9 9 none := ⟨by kernel_rfl⟩
instance : FldV Tryz.prog 171 10 10 none := ⟨by kernel_rfl⟩
instance : FldV Tryz.prog 171 11 11 none := ⟨by kernel_rfl⟩
instance : FldV Tryz.prog 171 12 12 none := ⟨by kernel_rfl⟩
instance : FldV Tryz.prog 171 13 13 none := ⟨by kernel_rfl⟩
instance : FldV Tryz.prog 171 14 14 none := ⟨by kernel_rfl⟩
instance : FldV Tryz.prog 171 15 15 none := ⟨by kernel_rfl⟩
instance : FldV Tryz.prog 171 16 16 none := ⟨by kernel_rfl⟩
instance : FldV Tryz.prog 171 17 17 none := ⟨by kernel_rfl⟩
instance : FldV Tryz.prog 171 18 18 none := ⟨by kernel_rfl⟩
instance : FldV Tryz.prog 171 19 19 none := ⟨by kernel_rfl⟩
instance : FldV Tryz.prog 171 20 20 none := ⟨by kernel_rfl⟩
instance : FldV Tryz.prog 171 21 21 none := ⟨by kernel_rfl⟩
instance : FldV Tryz.prog 171 22 22 none := ⟨by kernel_rfl⟩
instance : FldV Tryz.prog 171 23 23 none := ⟨by kernel_rfl⟩
instance : FldV Tryz.prog 171 24 24 none := ⟨by kernel_rfl⟩
instance : FldV Tryz.prog 171 25 25 none := ⟨by kernel_rfl⟩
instance : FldV Tryz.prog 171 26 26 none := ⟨by kernel_rfl⟩
instance : FldV Tryz.prog 171 27 27 none := ⟨by kernel_rfl⟩
instance : FldV Tryz.prog 171 28 28 none := ⟨by kernel_rfl⟩
instance : FldV Tryz.prog 171 29 29 none := ⟨by kernel_rfl⟩
instance : FldV Tryz.prog 171 30 30 none := ⟨by kernel_rfl⟩
instance : FldV Tryz.prog 171 31 31 (some 16) := ⟨by kernel_rfl⟩
instance : FldV Tryz.prog 171 32 47 (some 16) := ⟨by kernel_rfl⟩
instance : FldV Tryz.prog 171 33 63 (some 64) := ⟨by kernel_rfl⟩
instance : FldV Tryz.prog 171 34 127 none := ⟨by kernel_rfl⟩
instance : FldV Tryz.prog 171 35 128 none := ⟨by kernel_rfl⟩
instance : FldV Tryz.prog 171 36 129 none := ⟨by kernel_rfl⟩
instance : FldV Tryz.prog 171 37 130 none := ⟨by kernel_rfl⟩
instance : FldV Tryz.prog 171 38 131 (some 16) := ⟨by kernel_rfl⟩
instance : FldV Tryz.prog 171 39 147 none := ⟨by kernel_rfl⟩
instance : FldV Tryz.prog 171 40 148 none := ⟨by kernel_rfl⟩
instance : FldV Tryz.prog 171 41 149 none := ⟨by kernel_rfl⟩
instance : FldV Tryz.prog 171 42 150 (some 4) := ⟨by kernel_rfl⟩
instance : FldV Tryz.prog 171 43 154 none := ⟨by kernel_rfl⟩
instance : FldV Tryz.prog 171 44 155 none := ⟨by kernel_rfl⟩
instance : FldV Tryz.prog 171 45 156 none := ⟨by kernel_rfl⟩
instance : FldV Tryz.prog 171 46 157 none := ⟨by kernel_rfl⟩
instance : FldV Tryz.prog 171 47 158 none := ⟨by kernel_rfl⟩
instance : FldV Tryz.prog 171 48 159 none := ⟨by kernel_rfl⟩
instance : FldV Tryz.prog 171 49 160 (some 17) := ⟨by kernel_rfl⟩
instance : FldV Tryz.prog 171 50 177 none := ⟨by kernel_rfl⟩
instance : FldV Tryz.prog 171 51 178 none := ⟨by kernel_rfl⟩
instance : FldV Tryz.prog 171 52 179 none := ⟨by kernel_rfl⟩
instance : FldV Tryz.prog 171 53 180 none := ⟨by kernel_rfl⟩
instance : FldV Tryz.prog 171 54 181 none := ⟨by kernel_rfl⟩
instance : FldV Tryz.prog 171 55 182 none := ⟨by kernel_rfl⟩
instance : FldV Tryz.prog 171 56 183 none := ⟨by kernel_rfl⟩
instance : FldV Tryz.prog 171 57 184 none := ⟨by kernel_rfl⟩
instance : FldV Tryz.prog 171 58 185 none := ⟨by kernel_rfl⟩
instance : FldV Tryz.prog 171 59 186 none := ⟨by kernel_rfl⟩
instance : FldV Tryz.prog 171 60 187 none := ⟨by kernel_rfl⟩
instance : FldV Tryz.prog 171 61 188 none := ⟨by kernel_rfl⟩
instance : FldV Tryz.prog 171 62 189 none := ⟨by kernel_rfl⟩
instance : FldV Tryz.prog 171 63 190 none := ⟨by kernel_rfl⟩
instance : FldV Tryz.prog 171 64 191 none := ⟨by kernel_rfl⟩
instance : FldV Tryz.prog 171 65 192 none := ⟨by kernel_rfl⟩
instance : FldV Tryz.prog 171 66 193 none := ⟨by kernel_rfl⟩
instance : FldV Tryz.prog 171 67 194 none := ⟨by kernel_rfl⟩
instance : FldV Tryz.prog 171 68 195 none := ⟨by kernel_rfl⟩
instance : FldV Tryz.prog 171 69 196 none := ⟨by kernel_rfl⟩
instance : FldV Tryz.prog 171 70 197 none := ⟨by kernel_rfl⟩
instance : FldV Tryz.prog 171 71 198 none := ⟨by kernel_rfl⟩
instance : FldV Tryz.prog 171 72 199 (some 32) := ⟨by kernel_rfl⟩
instance : FldV Tryz.prog 171 73 231 none := ⟨by kernel_rfl⟩
instance : FldV Tryz.prog 171 74 232 none := ⟨by kernel_rfl⟩
instance : FldV Tryz.prog 171 75 233 none := ⟨by kernel_rfl⟩
instance : FldV Tryz.prog 171 76 234 none := ⟨by kernel_rfl⟩
instance : FldV Tryz.prog 171 77 235 none := ⟨by kernel_rfl⟩
instance : FldV Tryz.prog 171 78 236 (some 32) := ⟨by kernel_rfl⟩
instance : FldV Tryz.prog 171 79 268 (some 64) := ⟨by kernel_rfl⟩
instance : FldV Tryz.prog 171 80 332 none := ⟨by kernel_rfl⟩
instance : FldV Tryz.prog 171 81 333 none := ⟨by kernel_rfl⟩
instance : FldV Tryz.prog 171 82 334 none := ⟨by kernel_rfl⟩
instance : FldV Tryz.prog 171 83 335 (some 2) := ⟨by kernel_rfl⟩
instance : FldV Tryz.prog 171 84 337 (some 4) := ⟨by kernel_rfl⟩
instance : FldV Tryz.prog 171 85 341 (some 16) := ⟨by kernel_rfl⟩
instance : FldV Tryz.prog 171 86 357 none := ⟨by kernel_rfl⟩
instance : FldV Tryz.prog 171 87 358 none := ⟨by kernel_rfl⟩
instance : FldV Tryz.prog 171 88 359 none := ⟨by kernel_rfl⟩
instance : FldV Tryz.prog 171 89 360 none := ⟨by kernel_rfl⟩
instance : FldV Tryz.prog 171 90 361 none := ⟨by kernel_rfl⟩
instance : FldV Tryz.prog 171 91 362 none := ⟨by kernel_rfl⟩
instance : FldV Tryz.prog 171 92 363 none := ⟨by kernel_rfl⟩
instance : FldV Tryz.prog 171 93 364 none := ⟨by kernel_rfl⟩
instance : FldV Tryz.prog 171 94 365 none := ⟨by kernel_rfl⟩
instance : FldV Tryz.prog 171 95 366 (some 2) := ⟨by kernel_rfl⟩
instance : FldV Tryz.prog 171 96 368 (some 96) := ⟨by kernel_rfl⟩
instance : FldV Tryz.prog 171 97 464 none := ⟨by kernel_rfl⟩
instance : FldV Tryz.prog 187 0 0 none := ⟨by kernel_rfl⟩
instance : FldV Tryz.prog 191 0 0 none := ⟨by kernel_rfl⟩
instance : FldV Tryz.prog 191 1 1 none := ⟨by kernel_rfl⟩
instance : FldV Tryz.prog 191 2 2 none := ⟨by kernel_rfl⟩
instance : FldV Tryz.prog 191 3 3 none := ⟨by kernel_rfl⟩
instance : FldV Tryz.prog 199 0 0 none := ⟨by kernel_rfl⟩
instance : FldV Tryz.prog 199 1 1 none := ⟨by kernel_rfl⟩
instance : FldV Tryz.prog 199 2 2 none := ⟨by kernel_rfl⟩
instance : FldV Tryz.prog 203 0 0 none := ⟨by kernel_rfl⟩
instance : FldV Tryz.prog 203 1 1 none := ⟨by kernel_rfl⟩
instance : FldV Tryz.prog 203 2 2 none := ⟨by kernel_rfl⟩
instance : FldV Tryz.prog 213 0 0 none := ⟨by kernel_rfl⟩
instance : FldV Tryz.prog 213 1 1 none := ⟨by kernel_rfl⟩
instance : FldV Tryz.prog 213 2 2 none := ⟨by kernel_rfl⟩
instance : FldV Tryz.prog 213 3 3 none := ⟨by kernel_rfl⟩
instance : FldV Tryz.prog 213 4 4 none := ⟨by kernel_rfl⟩
instance : FldV Tryz.prog 213 5 5 none := ⟨by kernel_rfl⟩
instance : FldV Tryz.prog 213 6 6 none := ⟨by kernel_rfl⟩
instance : FldV Tryz.prog 213 7 7 none := ⟨by kernel_rfl⟩
instance : FldV Tryz.prog 213 8 8 none := ⟨by kernel_rfl⟩
instance : FldV Tryz.prog 213 9 9 none := ⟨by kernel_rfl⟩
instance : FldV Tryz.prog 213 10 10 none := ⟨by kernel_rfl⟩
instance : FldV Tryz.prog 213 11 11 none := ⟨by kernel_rfl⟩
instance : FldV Tryz.prog 213 12 12 (some 60) := ⟨by kernel_rfl⟩
instance : FldV Tryz.prog 213 13 72 none := ⟨by kernel_rfl⟩
instance : FldV Tryz.prog 213 14 73 none := ⟨by kernel_rfl⟩
instance : FldV Tryz.prog 213 15 74 none := ⟨by kernel_rfl⟩
instance : FldV Tryz.prog 213 16 75 none := ⟨by kernel_rfl⟩
instance : FldV Tryz.prog 213 17 76 none := ⟨by kernel_rfl⟩
instance : FldV Tryz.prog 213 18 77 none := ⟨by kernel_rfl⟩
instance : FldV Tryz.prog 213 19 78 none := ⟨by kernel_rfl⟩
instance : FldV Tryz.prog 213 20 79 none := ⟨by kernel_rfl⟩
instance : FldV Tryz.prog 213 21 80 none := ⟨by kernel_rfl⟩
instance : FldV Tryz.prog 213 22 81 none := ⟨by kernel_rfl⟩
instance : FldV Tryz.prog 213 23 82 none := ⟨by kernel_rfl⟩
instance : FldV Tryz.prog 213 24 83 none := ⟨by kernel_rfl⟩
instance : FldV Tryz.prog 213 25 84 none := ⟨by kernel_rfl⟩
instance : FldV Tryz.prog 213 26 85 none := ⟨by kernel_rfl⟩
instance : FldV Tryz.prog 213 27 86 none := ⟨by kernel_rfl⟩
instance : FldV Tryz.prog 213 28 87 none := ⟨by kernel_rfl⟩
instance : FldV Tryz.prog 213 29 88 none := ⟨by kernel_rfl⟩
instance : FldV Tryz.prog 213 30 89 none := ⟨by kernel_rfl⟩
instance : FldV Tryz.prog 213 31 90 none := ⟨by kernel_rfl⟩
instance : FldV Tryz.prog 227 0 0 none := ⟨by kernel_rfl⟩
instance : FldV Tryz.prog 227 1 1 none := ⟨by kernel_rfl⟩
instance : FldV Tryz.prog 227 2 2 none := ⟨by kernel_rfl⟩
instance : FldV Tryz.prog 227 3 3 none := ⟨by kernel_rfl⟩
instance : FldV Tryz.prog 227 4 4 none := ⟨by kernel_rfl⟩
instance : FldV Tryz.prog 229 0 0 none := ⟨by kernel_rfl⟩
instance : FldV Tryz.prog 229 1 1 none := ⟨by kernel_rfl⟩
instance : FldV Tryz.prog 229 2 2 none := ⟨by kernel_rfl⟩
instance : FldV Tryz.prog 229 3 3 none := ⟨by kernel_rfl⟩
instance : FldV Tryz.prog 231 0 0 (some 5) := ⟨by kernel_rfl⟩
instance : FldV Tryz.prog 231 1 5 (some 16) := ⟨by kernel_rfl⟩
instance : FldV Tryz.prog 236 0 0 none := ⟨by kernel_rfl⟩
instance : FldV Tryz.prog 236 1 1 none := ⟨by kernel_rfl⟩
instance : FldV Tryz.prog 236 2 2 none := ⟨by kernel_rfl⟩
instance : FldV Tryz.prog 236 3 3 none := ⟨by kernel_rfl⟩
instance : FldV Tryz.prog 238 0 0 (some 5) := ⟨by kernel_rfl⟩
instance : FldV Tryz.prog 238 1 5 (some 16) := ⟨by kernel_rfl⟩
instance : FldV Tryz.prog 240 0 0 (some 5) := ⟨by kernel_rfl⟩
instance : FldV Tryz.prog 240 1 5 (some 1360) := ⟨by kernel_rfl⟩
instance : FldV Tryz.prog 243 0 0 none := ⟨by kernel_rfl⟩
instance : FldV Tryz.prog 243 1 1 none := ⟨by kernel_rfl⟩
instance : FldV Tryz.prog 249 0 0 none := ⟨by kernel_rfl⟩
instance : FldV Tryz.prog 249 1 1 none := ⟨by kernel_rfl⟩
instance : FldV Tryz.prog 249 2 2 none := ⟨by kernel_rfl⟩
instance : FldV Tryz.prog 249 3 3 none := ⟨by kernel_rfl⟩
instance : Body Tryz.prog 2 := ⟨by kernel_rfl⟩
instance : Body Tryz.prog 3 := ⟨by kernel_rfl⟩
instance : Body Tryz.prog 4 := ⟨by kernel_rfl⟩
instance : Body Tryz.prog 5 := ⟨by kernel_rfl⟩
instance : Body Tryz.prog 6 := ⟨by kernel_rfl⟩
instance : Body Tryz.prog 7 := ⟨by kernel_rfl⟩
instance : Body Tryz.prog 8 := ⟨by kernel_rfl⟩
instance : Body Tryz.prog 9 := ⟨by kernel_rfl⟩
instance : Body Tryz.prog 10 := ⟨by kernel_rfl⟩
instance : Body Tryz.prog 11 := ⟨by kernel_rfl⟩
instance : Body Tryz.prog 12 := ⟨by kernel_rfl⟩
instance : Body Tryz.prog 13 := ⟨by kernel_rfl⟩
instance : Body Tryz.prog 14 := ⟨by kernel_rfl⟩
instance : Body Tryz.prog 15 := ⟨by kernel_rfl⟩
instance : Body Tryz.prog 16 := ⟨by kernel_rfl⟩
instance : Body Tryz.prog 17 := ⟨by kernel_rfl⟩
instance : Body Tryz.prog 18 := ⟨by kernel_rfl⟩
instance : Body Tryz.prog 19 := ⟨by kernel_rfl⟩
instance : Body Tryz.prog 20 := ⟨by kernel_rfl⟩
instance : Body Tryz.prog 21 := ⟨by kernel_rfl⟩
instance : Body Tryz.prog 22 := ⟨by kernel_rfl⟩
instance : Body Tryz.prog 23 := ⟨by kernel_rfl⟩
instance : Body Tryz.prog 24 := ⟨by kernel_rfl⟩
instance : Body Tryz.prog 25 := ⟨by kernel_rfl⟩
instance : Body Tryz.prog 26 := ⟨by kernel_rfl⟩
instance : Body Tryz.prog 27 := ⟨by kernel_rfl⟩
instance : Body Tryz.prog 28 := ⟨by kernel_rfl⟩
instance : Body Tryz.prog 29 := ⟨by kernel_rfl⟩
instance : Body Tryz.prog 30 := ⟨by kernel_rfl⟩
instance : Body Tryz.prog 31 := ⟨by kernel_rfl⟩
instance : Body Tryz.prog 32 := ⟨by kernel_rfl⟩
instance : Body Tryz.prog 33 := ⟨by kernel_rfl⟩
instance : Body Tryz.prog 34 := ⟨by kernel_rfl⟩
instance : Body Tryz.prog 35 := ⟨by kernel_rfl⟩
instance : Body Tryz.prog 36 := ⟨by kernel_rfl⟩
instance : Body Tryz.prog 37 := ⟨by kernel_rfl⟩
instance : Body Tryz.prog 38 := ⟨by kernel_rfl⟩
instance : Body Tryz.prog 39 := ⟨by kernel_rfl⟩
instance : Body Tryz.prog 40 := ⟨by kernel_rfl⟩
instance : Body Tryz.prog 41 := ⟨by kernel_rfl⟩
instance : Body Tryz.prog 42 := ⟨by kernel_rfl⟩
instance : Body Tryz.prog 43 := ⟨by kernel_rfl⟩
instance : Body Tryz.prog 44 := ⟨by kernel_rfl⟩
instance : Body Tryz.prog 45 := ⟨by kernel_rfl⟩
instance : Body Tryz.prog 46 := ⟨by kernel_rfl⟩
instance : Body Tryz.prog 47 := ⟨by kernel_rfl⟩
instance : Body Tryz.prog 48 := ⟨by kernel_rfl⟩
instance : Body Tryz.prog 49 := ⟨by kernel_rfl⟩
instance : Body Tryz.prog 50 := ⟨by kernel_rfl⟩
instance : Body Tryz.prog 51 := ⟨by kernel_rfl⟩
instance : Body Tryz.prog 52 := ⟨by kernel_rfl⟩
instance : Body Tryz.prog 53 := ⟨by kernel_rfl⟩
instance : Body Tryz.prog 54 := ⟨by kernel_rfl⟩
instance : Body Tryz.prog 55 := ⟨by kernel_rfl⟩
instance : Body Tryz.prog 56 := ⟨by kernel_rfl⟩
instance : Body Tryz.prog 57 := ⟨by kernel_rfl⟩
instance : Body Tryz.prog 58 := ⟨by kernel_rfl⟩
instance : Body Tryz.prog 59 := ⟨by kernel_rfl⟩
instance : Body Tryz.prog 60 := ⟨by kernel_rfl⟩
instance : Body Tryz.prog 61 := ⟨by kernel_rfl⟩
instance : Body Tryz.prog 62 := ⟨by kernel_rfl⟩
instance : Body Tryz.prog 63 := ⟨by kernel_rfl⟩
instance : Body Tryz.prog 64 := ⟨by kernel_rfl⟩
instance : Body Tryz.prog 65 := ⟨by kernel_rfl⟩
instance : Body Tryz.prog 66 := ⟨by kernel_rfl⟩
instance : Body Tryz.prog 67 := ⟨by kernel_rfl⟩
instance : Body Tryz.prog 68 := ⟨by kernel_rfl⟩
instance : Body Tryz.prog 69 := ⟨by kernel_rfl⟩
instance : Body Tryz.prog 70 := ⟨by kernel_rfl⟩
instance : Body Tryz.prog 71 := ⟨by kernel_rfl⟩
instance : Body Tryz.prog 72 := ⟨by kernel_rfl⟩
instance : Body Tryz.prog 73 := ⟨by kernel_rfl⟩
instance : Body Tryz.prog 74 := ⟨by kernel_rfl⟩
instance : Body Tryz.prog 75 := ⟨by kernel_rfl⟩
instance : Body Tryz.prog 76 := ⟨by kernel_rfl⟩
instance : Body Tryz.prog 77 := ⟨by kernel_rfl⟩
instance : Body Tryz.prog 78 := ⟨by kernel_rfl⟩
instance : Body Tryz.prog 79 := ⟨by kernel_rfl⟩
instance : Body Tryz.prog 80 := ⟨by kernel_rfl⟩
instance : Body Tryz.prog 81 := ⟨by kernel_rfl⟩
instance : Body Tryz.prog 82 := ⟨by kernel_rfl⟩
instance : Body Tryz.prog 83 := ⟨by kernel_rfl⟩
instance : Body Tryz.prog 84 := ⟨by kernel_rfl⟩
instance : Body Tryz.prog 85 := ⟨by kernel_rfl⟩
instance : Body Tryz.prog 86 := ⟨by kernel_rfl⟩
instance : Body Tryz.prog 87 := ⟨by kernel_rfl⟩
instance : Body Tryz.prog 88 := ⟨by kernel_rfl⟩
instance : Body Tryz.prog 89 := ⟨by kernel_rfl⟩
instance : Body Tryz.prog 90 := ⟨by kernel_rfl⟩
instance : Body Tryz.prog 91 := ⟨by kernel_rfl⟩
instance : Body Tryz.prog 92 := ⟨by kernel_rfl⟩
instance : Body Tryz.prog 93 := ⟨by kernel_rfl⟩
instance : Body Tryz.prog 94 := ⟨by kernel_rfl⟩
instance : Body Tryz.prog 95 := ⟨by kernel_rfl⟩
instance : Body Tryz.prog 96 := ⟨by kernel_rfl⟩
instance : Body Tryz.prog 97 := ⟨by kernel_rfl⟩
instance : Body Tryz.prog 98 := ⟨by kernel_rfl⟩
instance : Body Tryz.prog 99 := ⟨by kernel_rfl⟩
instance : Body Tryz.prog 100 := ⟨by kernel_rfl⟩
instance : Body Tryz.prog 101 := ⟨by kernel_rfl⟩
instance : Body Tryz.prog 102 := ⟨by kernel_rfl⟩
instance : Body Tryz.prog 103 := ⟨by kernel_rfl⟩
instance : Body Tryz.prog 104 := ⟨by kernel_rfl⟩
instance : Body Tryz.prog 105 := ⟨by kernel_rfl⟩
instance : Body Tryz.prog 106 := ⟨by kernel_rfl⟩
instance : Body Tryz.prog 107 := ⟨by kernel_rfl⟩
instance : Body Tryz.prog 108 := ⟨by kernel_rfl⟩
instance : Body Tryz.prog 109 := ⟨by kernel_rfl⟩
instance : Body Tryz.prog 110 := ⟨by kernel_rfl⟩
instance : Body Tryz.prog 111 := ⟨by kernel_rfl⟩
instance : Body Tryz.prog 112 := ⟨by kernel_rfl⟩
instance : Body Tryz.prog 113 := ⟨by kernel_rfl⟩
instance : Body Tryz.prog 114 := ⟨by kernel_rfl⟩
instance : Body Tryz.prog 115 := ⟨by kernel_rfl⟩
instance : Body Tryz.prog 116 := ⟨by kernel_rfl⟩
instance : Body Tryz.prog 117 := ⟨by kernel_rfl⟩
instance : Body Tryz.prog 118 := ⟨by kernel_rfl⟩
instance : Body Tryz.prog 119 := ⟨by kernel_rfl⟩
instance : Body Tryz.prog 120 := ⟨by kernel_rfl⟩
instance : Body Tryz.prog 121 := ⟨by kernel_rfl⟩
instance : Body Tryz.prog 122 := ⟨by kernel_rfl⟩
instance : Body Tryz.prog 123 := ⟨by kernel_rfl⟩
instance : Body Tryz.prog 124 := ⟨by kernel_rfl⟩
instance : Body Tryz.prog 125 := ⟨by kernel_rfl⟩
instance : Body Tryz.prog 126 := ⟨by kernel_rfl⟩
instance : Body Tryz.prog 127 := ⟨by kernel_rfl⟩
instance : Body Tryz.prog 128 := ⟨by kernel_rfl⟩
instance : Body Tryz.prog 129 := ⟨by kernel_rfl⟩
instance : Body Tryz.prog 130 := ⟨by kernel_rfl⟩
instance : Body Tryz.prog 131 := ⟨by kernel_rfl⟩
instance : Body Tryz.prog 132 := ⟨by kernel_rfl⟩
instance : Body Tryz.prog 133 := ⟨by kernel_rfl⟩
instance : Body Tryz.prog 134 := ⟨by kernel_rfl⟩
instance : Body Tryz.prog 136 := ⟨by kernel_rfl⟩
instance : Body Tryz.prog 137 := ⟨by kernel_rfl⟩
instance : Body Tryz.prog 138 := ⟨by kernel_rfl⟩
instance : Body Tryz.prog 161 := ⟨by kernel_rfl⟩
instance : StrTy Tryz.prog 9 := ⟨by kernel_rfl⟩
instance : StrTy Tryz.prog 10 := ⟨by kernel_rfl⟩
instance : StrTy Tryz.prog 11 := ⟨by kernel_rfl⟩
instance : KTy Tryz.prog 30 1 := ⟨by kernel_rfl⟩
instance : KTy Tryz.prog 89 2 := ⟨by kernel_rfl⟩
instance : KTy Tryz.prog 110 0 := ⟨by kernel_rfl⟩
instance : KTy Tryz.prog 117 3 := ⟨by kernel_rfl⟩
end Go.Proofs.YtcdalfhkhifplaaGreatDoor
namespace Go.Proofs.YtcdalfhkhifplaaGreatDoor
open Go
def placesOf (P : Program) (T : Nat) : Option (List (Nat × Nat)) := match P.underlying T with
  | some (.struct fs) => fs.toList.mapM fun f => (P.info? f.type).map fun i => (f.offset, i.size)
  | some (.array n e) => (P.info? e).map fun i => (List.range n).map fun k => (k * i.size, i.size)
  | _ => none
class BldTy (P : Program) (T : Nat) (pl : outParam (List (Nat × Nat))) (z : outParam (List Value)) : Prop where
  hp : placesOf P T = some pl
  hz : ((P.info? T).bind (·.zero)).map (·.cells.toList) = some z
end Go.Proofs.YtcdalfhkhifplaaGreatDoor
namespace Go.Proofs.YtcdalfhkhifplaaGreatDoor
open Go
def HP.star (L : List HP) : HP where
  sat h S := sats L h S
  loc h he := sats_loc h he
  dom h hg := sats_dom h hg
def HP.ex {ι : Type} (A : ι → HP) : HP where
  sat h S := ∃ i, (A i).sat h S
  loc := fun ⟨i, h⟩ he => ⟨i, (A i).loc h he⟩
  dom := fun ⟨i, h⟩ hg => (A i).dom h hg
def HP.fact (p : Prop) (A : HP) : HP where
  sat h S := p ∧ A.sat h S
  loc := fun ⟨p, h⟩ he => ⟨p, A.loc h he⟩
  dom := fun ⟨_, h⟩ hg => A.dom h hg
def Tn {ι : Type} (M : List HP) (P : ι → Prop) (M' : ι → List HP) : Prop := ∀ m S, sats M m S → ∃ i S', P i ∧ sats (M' i) m S' ∧ ∀ x, S' x → S x
theorem St.tn {q : Bool} {w0 w : World} {S0 : Nat → Prop} {ι : Type} {M L F : List HP} {P : ι → Prop} {M' : ι → List HP} (hT : Tn M P M') (ht : Subs M L F) (hs : St q w0 S0 L w) : ∃ i, P i ∧ St q w0 S0 (M' i ++ F) w := by
  obtain ⟨S, hS, hin⟩ := (hs.perm ht.perm).sat
  obtain ⟨S1, S2, h1, h2, hd, hu⟩ := sats_append.1 hS
  obtain ⟨i, S1', hP, h1', hsub⟩ := hT _ _ h1
  exact ⟨i, hP, hs.same, hs.os, hs.tape, hs.output, hs.size, hs.old, _, sats_append.2 ⟨S1', S2, h1', h2, fun g hg => hd g (hsub g hg), fun _ => Iff.rfl⟩, fun g hg => hin g ((hu g).2 (hg.imp (hsub g) id))⟩
inductive App : List HP → List HP → List HP → Prop where
  | nil {F : List HP} : App [] F F
  | cons {A : HP} {M F N : List HP} : App M F N → App (A :: M) F (A :: N)
theorem App.eq {M F N : List HP} (h : App M F N) : M ++ F = N := by
  induction h with
  | nil => rfl
  | cons _ ih => rw [List.cons_append, ih]
section
variable {X : Fx} {ops : Array Oper} {cf : Nat → Cls} {k : List Item} {is : List Nat} {l : List Oper} {loc : List Value} {tmp : List (Nat × Value)} {L F M : List HP} {ι : Type} {P : ι → Prop} {M' : ι → List HP}
theorem E.tn {N : ι → List HP} (hT : Tn M P M') (ht : Subs M L F) (hN : ∀ i, App (M' i) F (N i)) (h : ∀ i, P i → E X k loc tmp (N i)) : E X k loc tmp L := fun w0 S0 a w hr hs => by
  obtain ⟨i, hP, hs'⟩ := hs.tn hT ht
  rw [(hN i).eq] at hs'
  exact h i hP w0 S0 a w hr hs'
theorem EO.tn {N : ι → List HP} (hT : Tn M P M') (ht : Subs M L F) (hN : ∀ i, App (M' i) F (N i)) (h : ∀ i, P i → EO X ops cf k is l loc tmp (N i)) : EO X ops cf k is l loc tmp L := fun hl w0 S0 a w hr hs => by
  obtain ⟨i, hP, hs'⟩ := hs.tn hT ht
  rw [(hN i).eq] at hs'
  exact h i hP hl w0 S0 a w hr hs'
theorem EO.perm {L' : List HP} (hp : L.Perm L') (h : EO X ops cf k is l loc tmp L') : EO X ops cf k is l loc tmp L := fun hl w0 S0 a w hr hs => h hl w0 S0 a w hr (hs.perm hp)
theorem EO.know {A : HP} {p : Prop} (ht : Take A L F) (hA : ∀ m S, A.sat m S → p) (h : p → EO X ops cf k is l loc tmp L) : EO X ops cf k is l loc tmp L := fun hl w0 S0 a w hr hs => by
  obtain ⟨S, hS, _⟩ := (hs.perm ht.perm).sat
  obtain ⟨S1, S2, h1, _⟩ := hS
  exact h (hA _ _ h1) hl w0 S0 a w hr hs
theorem FnG.tn {q : Bool} {P' : Program} {f : FuncId} {args : Array Value} {L F M : List HP} {R : Value → List HP → Prop} {ι : Type} {P : ι → Prop} {M' : ι → List HP} (hT : Tn M P M') (ht : Subs M L F) (h : ∀ i, P i → FnG q P' f args (M' i ++ F) R) : FnG q P' f args L R := by
  intro w S hS
  obtain ⟨i, hP, hs'⟩ := (St.start (q := q) hS).tn hT ht
  obtain ⟨S', hS', hin⟩ := hs'.sat
  refine (h i hP w S' hS').mono fun v w' ⟨L', hR, hst⟩ => ⟨L', hR, hst.same, hst.os, hst.tape, hst.output, hst.size, fun g hg hn => ?_, ?_⟩
  · by_cases hg' : S' g
    · rcases hin g hg' with h1 | h1
      · exact absurd h1 hn
      · omega
    · exact hst.old g hg hg'
  · obtain ⟨T, hT1, hT2⟩ := hst.sat
    refine ⟨T, hT1, fun g hg => ?_⟩
    rcases hT2 g hg with h1 | h1
    · exact hin g h1
    · exact .inr h1
end
/-! ### opening and closing -/
theorem Tn.one {A : HP} {ι : Type} {P : ι → Prop} {M' : ι → List HP} (h : ∀ m S, A.sat m S → ∃ i, P i ∧ sats (M' i) m S) : Tn [A] P M' := fun m S hS => by
  obtain ⟨i, hP, hs⟩ := h m S (sats_one' hS)
  exact ⟨i, S, hP, hs, fun _ h => h⟩
theorem Tn.open {L : List HP} : Tn [HP.star L] (fun _ : Unit => True) (fun _ => L) := .one fun m S h => ⟨(), trivial, h⟩
theorem Tn.close {L : List HP} : Tn L (fun _ : Unit => True) (fun _ => [HP.star L]) := fun m S h => ⟨(), S, trivial, sats_one h, fun _ h => h⟩
theorem Tn.ex {ι : Type} {A : ι → HP} : Tn [HP.ex A] (fun _ => True) (fun i => [A i]) := .one fun m S ⟨i, h⟩ => ⟨i, trivial, sats_one h⟩
theorem Tn.inex {ι : Type} {A : ι → HP} (i : ι) : Tn [A i] (fun _ : Unit => True) (fun _ => [HP.ex A]) := .one fun m S h => ⟨(), trivial, sats_one ⟨i, h⟩⟩
theorem Tn.fact {p : Prop} {A : HP} : Tn [HP.fact p A] (fun _ : Unit => p) (fun _ => [A]) := .one fun m S ⟨hp, h⟩ => ⟨(), hp, sats_one h⟩
theorem Tn.exs {ι : Type} {A : ι → List HP} {p : ι → Prop} : Tn [HP.ex fun i => HP.fact (p i) (HP.star (A i))] p A := .one fun m S ⟨i, hp, h⟩ => ⟨i, hp, h⟩
theorem Tn.inexs {ι : Type} {A : ι → List HP} {p : ι → Prop} (i : ι) (hp : p i) : Tn (A i) (fun _ : Unit => True) (fun _ => [HP.ex fun i => HP.fact (p i) (HP.star (A i))]) := fun m S h => ⟨(), S, trivial, sats_one ⟨i, hp, h⟩, fun _ h => h⟩
theorem Take.of_get {α : Type} {f : α → HP} : ∀ {l : List α} {i : Nat} {x : α}, l[i]? = some x → Take (f x) (l.map f) ((l.eraseIdx i).map f)
  | y :: l, 0, x, h => by simp at h; subst h; exact .here
  | y :: l, i + 1, x, h => .there (Take.of_get (by simpa using h))
theorem Take.of_set {α : Type} {f : α → HP} : ∀ {l : List α} {i : Nat} (x : α), i < l.length → Take (f x) ((l.set i x).map f) ((l.eraseIdx i).map f)
  | y :: l, 0, x, h => .here
  | y :: l, i + 1, x, h => .there (Take.of_set x (by simpa using h))
theorem Tn.perm {M M' : List HP} (h : M.Perm M') : Tn M (fun _ : Unit => True) (fun _ => M') := fun m S hs => ⟨(), S, trivial, sats_perm h hs, fun _ h => h⟩
theorem Tn.trans {ι κ : Type} {M : List HP} {P : ι → Prop} {M' : ι → List HP} {Q : ι → κ → Prop} {M'' : ι → κ → List HP} (h : Tn M P M') (h' : ∀ i, P i → Tn (M' i) (Q i) (M'' i)) : Tn M (fun p : ι × κ => P p.1 ∧ Q p.1 p.2) (fun p => M'' p.1 p.2) := fun m S hs => by
  obtain ⟨i, S1, hP, h1, hs1⟩ := h m S hs
  obtain ⟨j, S2, hQ, h2, hs2⟩ := h' i hP m S1 h1
  exact ⟨(i, j), S2, ⟨hP, hQ⟩, h2, fun x hx => hs1 x (hs2 x hx)⟩
theorem Tn.frame {ι : Type} {M F : List HP} {P : ι → Prop} {M' : ι → List HP} (h : Tn M P M') : Tn (M ++ F) P (fun i => M' i ++ F) := fun m S hs => by
  obtain ⟨S1, S2, h1, h2, hd, hu⟩ := sats_append.1 hs
  obtain ⟨i, S1', hP, h1', hsub⟩ := h m S1 h1
  exact ⟨i, _, hP, sats_append.2 ⟨S1', S2, h1', h2, fun g hg => hd g (hsub g hg), fun _ => Iff.rfl⟩, fun g hg => (hu g).2 (hg.imp (hsub g) id)⟩
/-! ### calls whose outcome is told, ends up to the order of the parts -/
theorem St.some {q : Bool} {w0 w : World} {S0 : Nat → Prop} {L F M : List HP} (hs : Subs M L F) (h : St q w0 S0 L w) : St q w0 S0 M w := by
  obtain ⟨S, hS, hin⟩ := (h.perm hs.perm).sat
  obtain ⟨S1, S2, h1, h2, hd, hu⟩ := sats_append.1 hS
  exact ⟨h.same, h.os, h.tape, h.output, h.size, h.old, S1, h1, fun g hg => hin g ((hu g).2 (.inl hg))⟩
section
variable {X : Fx} {ops : Array Oper} {cf : Nat → Cls} {k : List Item} {i : Nat} {is : List Nat} {l : List Oper} {loc loc' : List Value} {tmp tmp' : List (Nat × Value)} {L L' F M : List HP}
  {d : Option Tmp} {ty : TypeId} {pos : String} {aft : Array Edge} {gd : Option (Nat × Bool)}
abbrev Fd (P : Program) (f : FuncId) (args : Array Value) (L : List HP) (v : Value) (L' : List HP) : Prop := Fn P f args L fun u M => u = v ∧ M = L'
theorem x_callD {c : Operand} {xs : List Operand} {tys : Array TypeId} {f : Nat} {first caps ags : List Value} {La Lb N : List HP} {v : Value} [Body X.P f]
    (hc : sv loc tmp c = some (.func (.func f) first.toArray caps.toArray)) (ha : svs loc tmp xs = some ags) (hf : Fd X.P f (first ++ ags ++ caps).toArray La v Lb) (hs : Subs La L F) (hN : App Lb F N)
    (hp : Pt loc tmp d v loc' tmp') (h : EO X ops cf k is l loc' tmp' N)
    (hg : gdv ops loc tmp gd = some true := by rfl) (hd : dOK X.n d = true := by rfl) (hcl : cf i = .any := by rfl) (hq : X.q = false := by rfl) :
    EO X ops cf k (i :: is) (⟨d, .call ⟨.value c, xs.toArray, tys⟩, ty, pos, aft, gd⟩ :: l) loc tmp L :=
  x_call hc ha hf hs (fun u M ⟨e1, e2⟩ => by subst e1 e2; exact ⟨_, _, hp, hN.eq ▸ h⟩) hg hd hcl hq
theorem E.some (hs : Subs M L F) (h : E X k loc tmp M) : E X k loc tmp L := fun w0 S0 a w hr hst => h w0 S0 a w hr (hst.some hs)
theorem EO.some (hs : Subs M L F) (h : EO X ops cf k is l loc tmp M) : EO X ops cf k is l loc tmp L := fun hl w0 S0 a w hr hst => h hl w0 S0 a w hr (hst.some hs)
theorem E.to' (h : E X k loc' [] M) (hl : loc = loc') (hs : Subs M L F) : E X k loc tmp L := by
  subst hl; exact (h.forget).some hs
theorem e_ret' {ts : List Nat} {vs : List Value} (hts : X.fn.results = (ts.map ResultVar.tmp).toArray) (hv : svs loc tmp (ts.map Operand.tmp) = Option.some vs) (h : ∃ M F, X.R (packV vs) M ∧ Subs M L F) : E X (.code .ret :: k) loc tmp L := by
  obtain ⟨M, F, h, hs⟩ := h
  exact E.some hs (e_ret hts hv h)
theorem e_end' {ts : List Nat} {vs : List Value} (hts : X.fn.results = (ts.map ResultVar.tmp).toArray) (hv : svs loc tmp (ts.map Operand.tmp) = Option.some vs) (h : ∃ M F, X.R (packV vs) M ∧ Subs M L F) : E X [] loc tmp L := by
  obtain ⟨M, F, h, hs⟩ := h
  exact E.some hs (e_end hts hv h)
end
/-! ### bits -/
def lim : IntKind → Nat
  | .i8 => 128 | .i16 => 32768 | .i32 => 2147483648 | .i64 => 9223372036854775808
  | .u8 => 256 | .u16 => 65536 | .u32 => 4294967296 | .u64 => 18446744073709551616
theorem wrap_lt {K : IntKind} {a : Nat} (h : a < lim K) : K.wrap (a : Int) = a := by
  cases K <;> simp only [IntKind.wrap, IntKind.bits, IntKind.signed, lim] at h ⊢ <;> simp <;> omega
theorem lt_of_wrap {K : IntKind} {a : Nat} (h : K.wrap (a : Int) = a) : a < lim K := by
  cases K <;> simp only [IntKind.wrap, IntKind.bits, IntKind.signed, lim] at h ⊢ <;> simp at h <;> omega
theorem lim_bits (K : IntKind) : lim K ≤ 2 ^ K.bits ∧ ∃ n, lim K = 2 ^ n := by
  cases K <;> simp only [lim, IntKind.bits] <;> refine ⟨by decide, ?_⟩
  · exact ⟨7, rfl⟩
  · exact ⟨15, rfl⟩
  · exact ⟨31, rfl⟩
  · exact ⟨63, rfl⟩
  · exact ⟨8, rfl⟩
  · exact ⟨16, rfl⟩
  · exact ⟨32, rfl⟩
  · exact ⟨64, rfl⟩
theorem ofInt_nat (n a : Nat) : BitVec.ofInt n (a : Int) = BitVec.ofNat n a := by
  apply BitVec.eq_of_toNat_eq; simp
section
variable {K : IntKind} {p q : Int} {a b : Nat}
theorem bAndN [hp : NatV p a] [hq : NatV q b] (ha : K.wrap (a : Int) = a) (hb : K.wrap (b : Int) = b) : binI .and K p q = some (.int K ((a &&& b : Nat) : Int)) := by
  have ha := lt_of_wrap ha; have hb := lt_of_wrap hb; have hl := lim_bits K
  have : (a &&& b) < lim K := Nat.lt_of_le_of_lt Nat.and_le_left ha
  rw [hp.h, hq.h]
  simp only [binI, ofInt_nat, BitVec.toNat_and, BitVec.toNat_ofNat]
  rw [Nat.mod_eq_of_lt (by omega), Nat.mod_eq_of_lt (by omega), wrap_lt this]
theorem bOrN [hp : NatV p a] [hq : NatV q b] (ha : K.wrap (a : Int) = a) (hb : K.wrap (b : Int) = b) : binI .or K p q = some (.int K ((a ||| b : Nat) : Int)) := by
  have ha := lt_of_wrap ha; have hb := lt_of_wrap hb; have hl := lim_bits K
  have : (a ||| b) < lim K := by obtain ⟨n, hn⟩ := hl.2; exact hn ▸ Nat.or_lt_two_pow (hn ▸ ha) (hn ▸ hb)
  rw [hp.h, hq.h]
  simp only [binI, ofInt_nat, BitVec.toNat_or, BitVec.toNat_ofNat]
  rw [Nat.mod_eq_of_lt (by omega), Nat.mod_eq_of_lt (by omega), wrap_lt this]
theorem bXorN [hp : NatV p a] [hq : NatV q b] (ha : K.wrap (a : Int) = a) (hb : K.wrap (b : Int) = b) : binI .xor K p q = some (.int K ((a ^^^ b : Nat) : Int)) := by
  have ha := lt_of_wrap ha; have hb := lt_of_wrap hb; have hl := lim_bits K
  have : (a ^^^ b) < lim K := by obtain ⟨n, hn⟩ := hl.2; exact hn ▸ Nat.xor_lt_two_pow (hn ▸ ha) (hn ▸ hb)
  rw [hp.h, hq.h]
  simp only [binI, ofInt_nat, BitVec.toNat_xor, BitVec.toNat_ofNat]
  rw [Nat.mod_eq_of_lt (by omega), Nat.mod_eq_of_lt (by omega), wrap_lt this]
theorem wm8 (a : Nat) : IntKind.u8.wrap (a : Int) = ((a % 256 : Nat) : Int) := by simp [IntKind.wrap, IntKind.bits, IntKind.signed]
theorem wm16 (a : Nat) : IntKind.u16.wrap (a : Int) = ((a % 65536 : Nat) : Int) := by simp [IntKind.wrap, IntKind.bits, IntKind.signed]
theorem wm32 (a : Nat) : IntKind.u32.wrap (a : Int) = ((a % 4294967296 : Nat) : Int) := by simp [IntKind.wrap, IntKind.bits, IntKind.signed]
end
section
variable {X : Fx} {ops : Array Oper} {cf : Nat → Cls} {k : List Item} {i : Nat} {is : List Nat} {l : List Oper} {loc loc' : List Value} {tmp tmp' : List (Nat × Value)} {L : List HP}
  {d : Option Tmp} {ty : TypeId} {pos : String} {aft : Array Edge} {gd : Option (Nat × Bool)}
theorem x_shlN {T T' : Nat} {x y : Operand} {K K' : IntKind} {p q r : Int} {a b : Nat} [hpa : NatV p a] [hqb : NatV q b] (hx : sv loc tmp x = some (.int K p)) (hy : sv loc tmp y = some (.int K' q)) (hb : b ≤ K.bits) (hw : K.wrap ((a * 2 ^ b : Nat) : Int) = r) (hp : Pt loc tmp d (.int K r) loc' tmp') (h : EO X ops cf k is l loc' tmp' L)
    (hg : gdv ops loc tmp gd = some true := by rfl) (hd : dOK X.n d = true := by rfl) : EO X ops cf k (i :: is) (⟨d, .binOp .shl T x y T', ty, pos, aft, gd⟩ :: l) loc tmp L := by
  subst hw
  refine x_shl hx hy (by rw [hqb.h]; omega) ?_ h hg hd
  rw [hpa.h, hqb.h, show min (Int.toNat (b : Int)) K.bits = b by simp; omega]
  simpa using hp
theorem x_shrN {T T' : Nat} {x y : Operand} {K K' : IntKind} {p q : Int} {a b : Nat} [hpa : NatV p a] [hqb : NatV q b] (hx : sv loc tmp x = some (.int K p)) (hy : sv loc tmp y = some (.int K' q)) (hb : b ≤ K.bits) (hp : Pt loc tmp d (.int K ((a / 2 ^ b : Nat) : Int)) loc' tmp') (h : EO X ops cf k is l loc' tmp' L)
    (hg : gdv ops loc tmp gd = some true := by rfl) (hd : dOK X.n d = true := by rfl) : EO X ops cf k (i :: is) (⟨d, .binOp .shr T x y T', ty, pos, aft, gd⟩ :: l) loc tmp L := by
  refine x_shr hx hy (by rw [hqb.h]; omega) ?_ h hg hd
  rw [hpa.h, hqb.h, show min (Int.toNat (b : Int)) K.bits = b by simp; omega]
  have : Int.fdiv (a : Int) (2 ^ b) = ((a / 2 ^ b : Nat) : Int) := by
    rw [Int.fdiv_eq_ediv_of_nonneg _ (by exact Int.le_of_lt (Int.pow_pos (by decide)))]; simp
  rw [this]; exact hp
theorem x_convN {S T : Nat} {x : Operand} {J K : IntKind} {p r : Int} {a : Nat} [IntTy X.P S J] [IntTy X.P T K] [hpa : NatV p a] (hx : sv loc tmp x = some (.int J p)) (hw : K.wrap (a : Int) = r) (hp : Pt loc tmp d (.int K r) loc' tmp') (h : EO X ops cf k is l loc' tmp' L)
    (hg : gdv ops loc tmp gd = some true := by rfl) (hd : dOK X.n d = true := by rfl) : EO X ops cf k (i :: is) (⟨d, .convert S T x, ty, pos, aft, gd⟩ :: l) loc tmp L :=
  x_conv hx (by rw [hpa.h]; exact hw) hp h hg hd
end
/-! ### structs and arrays that are written down -/
inductive SetR : List Value → Nat → List Value → List Value → Prop where
  | nil {cs : List Value} {o : Nat} : SetR cs o [] cs
  | cons {cs cs1 cs2 : List Value} {o : Nat} {u : Value} {us : List Value} : SetL cs o u cs1 → SetR cs1 (o + 1) us cs2 → SetR cs o (u :: us) cs2
inductive Bld (pl : List (Nat × Nat)) : List Value → List (Nat × Value) → List Value → Prop where
  | nil {cs : List Value} : Bld pl cs [] cs
  | one {cs cs1 cs2 : List Value} {i off : Nat} {v : Value} {rest : List (Nat × Value)} : pl[i]? = some (off, 1) → v.cells = #[v] → SetL cs off v cs1 → Bld pl cs1 rest cs2 → Bld pl cs ((i, v) :: rest) cs2
  | agg {cs cs1 cs2 us : List Value} {i off n : Nat} {rest : List (Nat × Value)} : pl[i]? = some (off, n) → Nat.beq us.length n = true → Nat.blt 0 us.length = true → SetR cs off us cs1 → Bld pl cs1 rest cs2 → Bld pl cs ((i, .agg us.toArray) :: rest) cs2
theorem SetL.lt {cs cs' : List Value} {o : Nat} {u : Value} (h : SetL cs o u cs') : o < cs.length ∧ cs' = cs.set o u := by
  obtain ⟨h1, h2⟩ := h.eq
  exact ⟨nth_some h1, by rw [h2, setL_set]⟩
theorem SetR.run {cs cs' us : List Value} {o : Nat} (h : SetR cs o us cs') : cs'.length = cs.length ∧ (us ≠ [] → o + us.length ≤ cs.length) ∧ ∀ b k, b + k = o → (us.zipIdx k).foldl (fun (a : Array Value) (p : Value × Nat) => a.setIfInBounds (b + p.2) p.1) cs.toArray = cs'.toArray := by
  induction h with
  | nil => exact ⟨rfl, fun h => absurd rfl h, fun _ _ _ => rfl⟩
  | @cons cs cs1 cs2 o u us h1 h2 ih =>
    obtain ⟨hlt, rfl⟩ := h1.lt
    obtain ⟨i1, i2, i3⟩ := ih
    refine ⟨by simpa using i1, fun _ => ?_, fun b k hb => ?_⟩
    · by_cases hu : us = []
      · subst hu; simp; omega
      · have := i2 hu; simp at this ⊢; omega
    · have := i3 b (k + 1) (by omega)
      rw [List.zipIdx_cons, List.foldl_cons]
      simp only [hb]
      rw [← this]
      simp
theorem Bld.fill {pl : List (Nat × Nat)} {f : Nat → Option (Nat × Nat)} (hf : ∀ i x, pl[i]? = some x → f i = some x) {cs cs' : List Value} {parts : List (Nat × Value)} (h : Bld pl cs parts cs') : Instr.fill f cs.toArray parts = some cs'.toArray := by
  induction h with
  | nil => rfl
  | @one cs cs1 cs2 i off v rest hp hv hs hb ih =>
    obtain ⟨hlt, rfl⟩ := hs.lt
    simp only [Instr.fill, hf _ _ hp, hv]
    have : ¬ (off + 1 > cs.length) := by omega
    simp [this] at ih ⊢
    exact ih
  | @agg cs cs1 cs2 us i off n rest hp hn h0 hs hb ih =>
    have hn := Nat.eq_of_beq_eq_true hn
    obtain ⟨h1, h2, h3⟩ := hs.run
    have hc : (Value.agg us.toArray).cells = us.toArray := rfl
    have hle : ¬ (off + us.length > cs.length) := by
      have := h2 (fun e => by subst e; cases h0); omega
    simp only [Instr.fill, hf _ _ hp, hc]
    have h3 := h3 off 0 (by omega)
    have e1 : (decide (us.toArray.size ≠ n) || decide (off + us.toArray.size > cs.toArray.size)) = false := by
      simp only [List.size_toArray, hn, Bool.or_eq_false_iff, decide_eq_false_iff_not]
      exact ⟨fun h => h rfl, by omega⟩
    have e2 : us.toArray.zipIdx.foldl (fun (cs : Array Value) (p : Value × Nat) => cs.setIfInBounds (off + p.2) p.1) cs.toArray = cs1.toArray := by
      rw [← h3]; simp
    simp only [e1, e2]
    exact ih
theorem placesOf_struct {P : Program} {T : Nat} {fs : Array Field} {pl : List (Nat × Nat)} (hu : P.underlying T = some (.struct fs)) (h : placesOf P T = some pl) : fs.toList.mapM (fun f => (P.info? f.type).map fun i => (f.offset, i.size)) = some pl := by
  simpa [placesOf, hu] using h
theorem run_bld {P : Program} {T : Nat} {pl : List (Nat × Nat)} {z cs : List Value} {parts : Array (Nat × Value)} [hb : BldTy P T pl z] (h : Bld pl z parts.toList cs) (w : World) : (Instr.build T parts).run P w = .ok (.agg cs.toArray) w := by
  have hz := hb.hz
  have hp := hb.hp
  refine run_build w T parts _ ?_
  cases hi : P.info? T with
  | none => rw [hi] at hz; cases hz
  | some it =>
    cases hzz : it.zero with
    | none => rw [hi] at hz; simp [hzz] at hz
    | some zv =>
      rw [hi] at hz
      simp only [Option.bind_some, hzz, Option.map_some, Option.some.injEq] at hz
      have hzc : zv.cells = z.toArray := by apply Array.ext'; simpa using hz
      cases hu : P.underlying T with
      | none => simp [placesOf, hu] at hp
      | some d =>
        cases d <;> try (simp [placesOf, hu] at hp; done)
        case struct fs =>
          have hpl := placesOf_struct hu hp
          have hf := h.fill (f := fun i => pl.toArray[i]?) (fun i x hx => by simpa using hx)
          simp only [Program.built, hi, hu, hzz, hpl, hzc]
          exact hf
        case array n e =>
          simp only [placesOf, hu] at hp
          cases hie : P.info? e with
          | none => rw [hie] at hp; cases hp
          | some ie =>
            rw [hie] at hp
            simp only [Option.map_some, Option.some.injEq] at hp
            have hf := h.fill (f := fun i => some (i * ie.size, ie.size)) (fun i x hx => by
              rw [← hp] at hx
              simp only [List.getElem?_map, List.getElem?_range'] at hx
              cases hr : (List.range n)[i]? with
              | none => rw [hr] at hx; cases hx
              | some j =>
                rw [hr] at hx
                have := List.getElem?_eq_some_iff.1 hr
                obtain ⟨h1, h2⟩ := this
                simp at h2
                subst h2
                simpa using hx)
            simp only [Program.built, hi, hu, hzz, hie, hzc]
            exact hf
section
variable {X : Fx} {ops : Array Oper} {cf : Nat → Cls} {k : List Item} {i : Nat} {is : List Nat} {l : List Oper} {loc loc' : List Value} {tmp tmp' : List (Nat × Value)} {L L' F M : List HP}
  {d : Option Tmp} {ty : TypeId} {pos : String} {aft : Array Edge} {gd : Option (Nat × Bool)}
theorem x_bld {T : Nat} {pl : List (Nat × Nat)} {z cs : List Value} {ps : List (Nat × Operand)} {vs : List Value} [BldTy X.P T pl z] (hv : svs loc tmp (ps.map (·.2)) = some vs) (hf : Bld pl z ((ps.map (·.1)).zip vs) cs)
    (hp : Pt loc tmp d (.agg cs.toArray) loc' tmp') (h : EO X ops cf k is l loc' tmp' L)
    (hg : gdv ops loc tmp gd = some true := by rfl) (hd : dOK X.n d = true := by rfl) : EO X ops cf k (i :: is) (⟨d, .build T ps.toArray, ty, pos, aft, gd⟩ :: l) loc tmp L :=
  x_pure hg (fun a hrl w => by
    have hps : (ps.toArray.map fun (i, x) => (i, a.eval x)).toList = (ps.map (·.1)).zip vs := by
      rw [← hrl.evs hv]
      simp only [List.map_toArray]
      clear hf hv
      induction ps with
      | nil => rfl
      | cons p ps ih => simp only [List.map_cons, List.zip_cons_cons]; rw [ih]
    have := run_bld (P := X.P) (T := T) (parts := ps.toArray.map fun (i, x) => (i, a.eval x)) (hps ▸ hf) w
    simp only [execOp, Sem.run_bind, this, Result.andThen_ok, Sem.run_pure]) hp hd h
theorem x_boxA {T : Nat} {x : Operand} {vs : List Value} (hx : sv loc tmp x = some (.agg vs.toArray)) (h : ∀ g, ∃ loc' tmp', Pt loc tmp d (.pointer (some ⟨g, 0, none⟩)) loc' tmp' ∧ EO X ops cf k is l loc' tmp' (Cells g T vs :: L))
    (hg : gdv ops loc tmp gd = some true := by rfl) (hd : dOK X.n d = true := by rfl) (hcl : (cf i).news = true := by rfl) (hq : X.q = false := by rfl) : EO X ops cf k (i :: is) (⟨d, .box T x, ty, pos, aft, gd⟩ :: l) loc tmp L :=
  x_box hx (by simpa [Value.cells] using h) hg hd hcl hq
abbrev Fe {ι : Type} (P : Program) (f : FuncId) (args : Array Value) (L : List HP) (PI : ι → Prop) (V : ι → Value) (LL : ι → List HP) : Prop := Fn P f args L fun u M => ∃ i, PI i ∧ u = V i ∧ M = LL i
theorem x_callE {ι : Type} {PI : ι → Prop} {V : ι → Value} {LL N : ι → List HP} {c : Operand} {xs : List Operand} {tys : Array TypeId} {f : Nat} {first caps ags : List Value} {La : List HP} [Body X.P f]
    (hc : sv loc tmp c = some (.func (.func f) first.toArray caps.toArray)) (ha : svs loc tmp xs = some ags) (hf : Fe X.P f (first ++ ags ++ caps).toArray La PI V LL) (hs : Subs La L F) (hN : ∀ i, App (LL i) F (N i))
    (h : ∀ j, PI j → ∃ loc' tmp', Pt loc tmp d (V j) loc' tmp' ∧ EO X ops cf k is l loc' tmp' (N j))
    (hg : gdv ops loc tmp gd = some true := by rfl) (hd : dOK X.n d = true := by rfl) (hcl : cf i = .any := by rfl) (hq : X.q = false := by rfl) :
    EO X ops cf k (i :: is) (⟨d, .call ⟨.value c, xs.toArray, tys⟩, ty, pos, aft, gd⟩ :: l) loc tmp L :=
  x_call hc ha hf hs (fun u M ⟨j, hP, e1, e2⟩ => by subst e1 e2; rw [(hN j).eq]; exact h j hP) hg hd hcl hq
theorem SetL.app {z u : Value} {b : List Value} : ∀ (a : List Value), SetL (a ++ z :: b) a.length u (a ++ u :: b)
  | [] => .zero
  | _ :: a => .succ (SetL.app a)
theorem cells_one {u : Value} (h : u.oneCell' = true) : u.cells = #[u] := by cases u <;> first | rfl | (simp [Value.oneCell'] at h)
theorem bld_seq {pl : List (Nat × Nat)} {N : Nat} (hpl : ∀ i, i < N → pl[i]? = some (i, 1)) : ∀ (us zs a : List Value), zs.length = us.length → a.length + us.length ≤ N → us.all (·.oneCell') = true → Bld pl (a ++ zs) ((List.range' a.length us.length).zip us) (a ++ us)
  | [], zs, a, hz, _, _ => by
    have : zs = [] := List.eq_nil_of_length_eq_zero hz
    subst this; exact .nil
  | u :: us, [], a, hz, _, _ => by cases hz
  | u :: us, z :: zs, a, hz, hN, h1 => by
    simp only [List.all_cons, Bool.and_eq_true] at h1
    rw [List.length_cons, List.range'_succ, List.zip_cons_cons]
    refine .one (hpl _ (by simp at hN; omega)) (cells_one h1.1) (SetL.app a) ?_
    have := bld_seq hpl us zs (a ++ [u]) (by simpa using hz) (by simp at hN ⊢; omega) h1.2
    simpa using this
theorem x_build1 {t e b n : Nat} {z : Value} {ps : List (Nat × Operand)} {vs : List Value} [SlE X.P t e 1 b [z]] (hv : svs loc tmp (ps.map (·.2)) = some vs)
    (hi : ps.map (·.1) = List.range' 0 n) (hl : vs.length = n) (h1 : vs.all (·.oneCell') = true) (hn : Nat.ble n 16777216 = true) (hpos : Nat.beq n 0 = false)
    (h : ∀ g, ∃ loc' tmp', Pt loc tmp d (.slice (some ⟨g, 0, none⟩) n n) loc' tmp' ∧ EO X ops cf k is l loc' tmp' (Own (some ⟨g, 0, none⟩) n e 1 n vs :: L))
    (hg : gdv ops loc tmp gd = some true := by rfl) (hd : dOK X.n d = true := by rfl) (hcl : (cf i).news = true := by rfl) (hq : X.q = false := by rfl) :
    EO X ops cf k (i :: is) (⟨d, .buildSlice t n ps.toArray, ty, pos, aft, gd⟩ :: l) loc tmp L := by
  refine x_build (sz := 1) (z := [z]) hv ?_ (by simpa using hn) hn (by simpa using hpos) (by omega) h hg hd hcl hq
  have hb := (bld_seq (pl := (List.range n).map fun i => (i, 1)) (N := n) (fun i hi => by simp [List.getElem?_range hi]) vs (List.replicate n z) [] (by simp [hl]) (by simp [hl]) h1).fill (f := fun i => some (i * 1, 1)) (fun i x hx => by
    simp only [List.getElem?_map] at hx
    cases hr : (List.range n)[i]? with
    | none => rw [hr] at hx; cases hx
    | some j =>
      obtain ⟨h1, h2⟩ := List.getElem?_eq_some_iff.1 hr
      simp at h2; subst h2
      rw [hr] at hx; simpa using hx)
  rw [hi]
  simp only [List.nil_append, List.length_nil, hl] at hb
  rw [← hb]
  congr 1
  apply Array.ext'
  simp only [Array.toList_map, Array.toList_range, Nat.mul_one, List.length_cons, List.length_nil, Nat.zero_add, Nat.mod_one]
  apply List.ext_getElem (by simp)
  intro j h1 h2
  simp
theorem x_atN {t e sz g o n c a : Nat} {K : IntKind} {x y : Operand} {p : Int} [hv : NatV p a] [SlTy X.P t e sz] (hx : sv loc tmp x = some (.slice (some ⟨g, o, none⟩) n c)) (hy : sv loc tmp y = some (.int K p)) (hn : a < n)
    (hp : Pt loc tmp d (.pointer (some ⟨g, o + a * sz, none⟩)) loc' tmp') (h : EO X ops cf k is l loc' tmp' L)
    (hg : gdv ops loc tmp gd = some true := by rfl) (hd : dOK X.n d = true := by rfl) : EO X ops cf k (i :: is) (⟨d, .indexAddr t x y, ty, pos, aft, gd⟩ :: l) loc tmp L :=
  x_at hx hy (by rw [hv.h]; omega) (by rw [hv.h]; omega) (by rw [hv.h]; exact hp) h hg hd
theorem x_atArrN {t e sz g o n a : Nat} {K : IntKind} {x y : Operand} {p : Int} [hv : NatV p a] [ArrTy X.P t n e sz] (hx : sv loc tmp x = some (.pointer (some ⟨g, o, none⟩))) (hy : sv loc tmp y = some (.int K p)) (hn : a < n)
    (hp : Pt loc tmp d (.pointer (some ⟨g, o + a * sz, none⟩)) loc' tmp') (h : EO X ops cf k is l loc' tmp' L)
    (hg : gdv ops loc tmp gd = some true := by rfl) (hd : dOK X.n d = true := by rfl) : EO X ops cf k (i :: is) (⟨d, .indexAddr t x y, ty, pos, aft, gd⟩ :: l) loc tmp L :=
  x_atArr hx hy (by rw [hv.h]; omega) (by rw [hv.h]; omega) (by rw [hv.h]; exact hp) h hg hd
theorem E.nilOwn {e sz : Nat} (h : E X k loc tmp (Own none 0 e sz 0 [] :: L)) : E X k loc tmp L := fun w0 S0 a w hr hs =>
  h w0 S0 a w hr ⟨hs.same, hs.os, hs.tape, hs.output, hs.size, hs.old, by
    obtain ⟨S, hS, hin⟩ := hs.sat
    refine ⟨S, ⟨fun _ => False, S, ?_, hS, fun _ h => h.elim, fun g => by simp⟩, hin⟩
    exact ⟨by simp, Nat.le_refl _, Nat.zero_le _, .inl ⟨rfl, rfl, fun _ h => h⟩⟩⟩
end
section
variable {X : Fx} {ops : Array Oper} {cf : Nat → Cls} {k : List Item} {i : Nat} {is : List Nat} {l : List Oper} {loc loc' : List Value} {tmp tmp' : List (Nat × Value)} {L L' F M : List HP}
  {d : Option Tmp} {ty : TypeId} {pos : String} {aft : Array Edge} {gd : Option (Nat × Bool)}
theorem x_app1 {t e b n m c c' g o : Nat} {z : Value} {x y : Operand} {A : Option Addr} {vs news : List Value} [SlE X.P t e 1 b [z]] (hx : sv loc tmp x = some (.slice A n c)) (hy : sv loc tmp y = some (.slice (some ⟨g, o, none⟩) m c'))
    (ht : Take (Own A c e 1 n vs) L F) (hr : CellRow F g o news) (hm : news.length = m) (h1 : news.all (·.oneCell') = true) (h63 : n + m ≤ 1000000000000) (hby : (n + m) * b ≤ 140737488355328)
    (h : ∀ A' c', ∃ loc' tmp', Pt loc tmp d (.slice A' (n + m) c') loc' tmp' ∧ EO X ops cf k is l loc' tmp' (Own A' c' e 1 (n + m) (vs ++ news) :: F))
    (hg : gdv ops loc tmp gd = some true := by rfl) (hd : dOK X.n d = true := by rfl) (hcl : cf i = .any := by rfl) (hq : X.q = false := by rfl) :
    EO X ops cf k (i :: is) (⟨d, .call ⟨.builtin .append, #[x, y], #[t, t]⟩, ty, pos, aft, gd⟩ :: l) loc tmp L :=
  x_app hx hy ht ⟨by omega, .inr ⟨g, o, rfl, hr⟩⟩ (fun h => by cases h) (fun u hu => List.all_eq_true.1 h1 u hu) rfl (by decide) (by simp only [maxLen]; omega) hby h hg hd hcl hq
end
/-! ### a struct is stored -/
theorem SetR.ovw {cs cs' us : List Value} {o : Nat} (h : SetR cs o us cs') (hne : us ≠ []) : cs' = Proofs.YtcdalfhkhifplaaGreatDoor.ovw cs o us := by
  have hl := h.run.2.1 hne
  have hl' := h.run.1
  have hget : ∀ i, cs'[i]? = if o ≤ i ∧ i < o + us.length then us[i - o]? else cs[i]? := by
    clear hne hl hl'
    induction h with
    | nil => intro i; rw [if_neg (by simp)]
    | @cons cs cs1 cs2 o u us h1 h2 ih =>
      intro i
      obtain ⟨hlt, rfl⟩ := h1.lt
      rw [ih i]
      by_cases hi : i = o
      · subst hi
        rw [if_neg (by omega), if_pos (by simp)]
        simp [hlt]
      · by_cases hi2 : o + 1 ≤ i ∧ i < o + 1 + us.length
        · rw [if_pos hi2, if_pos (by simp; omega), show i - o = (i - (o + 1)) + 1 by omega]; simp
        · rw [if_neg hi2, if_neg (by simp; omega), List.getElem?_set_ne (by omega)]
  apply List.ext_getElem?
  intro i
  rw [hget i]
  unfold Proofs.YtcdalfhkhifplaaGreatDoor.ovw
  by_cases h1 : i < o
  · rw [if_neg (by omega), List.append_assoc, List.getElem?_append_left (by simp; omega), List.getElem?_take_of_lt h1]
  · by_cases h2 : i < o + us.length
    · rw [if_pos (by omega), List.append_assoc, List.getElem?_append_right (by simp; omega), List.getElem?_append_left (by simp; omega)]
      congr 1; simp; omega
    · rw [if_neg (by omega), List.append_assoc, List.getElem?_append_right (by simp; omega), List.getElem?_append_right (by simp; omega), List.getElem?_drop]
      congr 1; simp; omega
inductive PutA : List HP → Nat → Nat → List Value → List HP → Prop where
  | here {g o : Nat} {t : TypeId} {cs cs' us : List Value} {L : List HP} : SetR cs o us cs' → PutA (Cells g t cs :: L) g o us (Cells g t cs' :: L)
  | there {g o : Nat} {us : List Value} {A : HP} {L L' : List HP} : PutA L g o us L' → PutA (A :: L) g o us (A :: L')
theorem PutA.putR {L L' : List HP} {g o : Nat} {us : List Value} (h : PutA L g o us L') (hne : us ≠ []) : PutR L g o us L' := by
  induction h with
  | here hs => rw [hs.ovw hne]; exact .cells (hs.run.2.1 hne)
  | there _ ih => exact .there (ih hne)
section
variable {X : Fx} {ops : Array Oper} {cf : Nat → Cls} {k : List Item} {i : Nat} {is : List Nat} {l : List Oper} {loc loc' : List Value} {tmp tmp' : List (Nat × Value)} {L L' F M : List HP}
  {d : Option Tmp} {ty : TypeId} {pos : String} {aft : Array Edge} {gd : Option (Nat × Bool)}
theorem x_storeA {T m g o : Nat} {x y : Operand} {us : List Value} [AggSz X.P T m] (hx : sv loc tmp x = some (.pointer (some ⟨g, o, none⟩))) (hy : sv loc tmp y = some (.agg us.toArray)) (hm : us.length = m) (h0 : Nat.blt 0 m = true) (hu : us.all (·.oneCell') = true) (hw : PutA L g o us L') (h : EO X ops cf k is l loc tmp L')
    (hg : gdv ops loc tmp gd = some true := by rfl) (hcl : cf i = .any := by rfl) (hq : X.q = false := by rfl) : EO X ops cf k (i :: is) (⟨none, .store T x y, ty, pos, aft, gd⟩ :: l) loc tmp L :=
  x_any (Rv := fun _ L'' => L'' = L') hg hcl (fun a hr w0 S0 w hs n => by
    obtain ⟨dd, j, _, hdd, hj, hz⟩ := AggSz.out (P := X.P) (T := T) (n := m)
    have hne : us ≠ [] := fun e => by subst e; simp at hm; subst hm; cases h0
    obtain ⟨cur, t, hgc, hl, hs'⟩ := (hw.putR hne).st (hs.wat n)
    have hcs : (Value.agg us.toArray).cells = us.toArray := rfl
    have hst := run_storeCells_at X.P g o t us 0 cur (wat w n) hgc (by simpa using hl) (fun v hv => List.all_eq_true.1 hu v hv)
    simp only [Nat.add_zero] at hst
    have e : Proofs.YtcdalfhkhifplaaGreatDoor.ovw cur.toList o us = cur.toList.take o ++ us ++ cur.toList.drop (o + us.length) := rfl
    rw [e] at hs'
    have hrun : (Instr.storeAt T (.pointer (some ⟨g, o, none⟩)) (.agg us.toArray)).run X.P (wat w n) = (storeCells ⟨g, o, none⟩ us).run X.P (wat w n) := by
      simp [Instr.storeAt, Instr.sureAddr, storeVar, sizeOf, typeInfo, hj, hz, hcs, hm]
    simp [RunN, execOp, hr.ev hx, hr.ev hy, hrun, hst]
    rw [hq]
    simpa using hs') rfl (fun v L'' e => by subst e; exact ⟨_, _, .none, h⟩)
end
/-! ### which operation comes next (asked ahead of a rule, for speed) -/
section
variable {X : Fx} {ops : Array Oper} {cf : Nat → Cls} {k : List Item} {i : Nat} {is : List Nat} {l : List Oper} {loc : List Value} {tmp : List (Nat × Value)} {L : List HP}
  {d : Option Tmp} {ty : TypeId} {pos : String} {aft : Array Edge} {gd : Option (Nat × Bool)} {x y z : Operand} {S T j : Nat} {u : UnOp} {ps : Array (Nat × Operand)} {ox oy oz : Option Operand} {xs : Array Operand} {tys : Array TypeId}
theorem is_move (h : EO X ops cf k (i :: is) (⟨d, .move x, ty, pos, aft, gd⟩ :: l) loc tmp L) : EO X ops cf k (i :: is) (⟨d, .move x, ty, pos, aft, gd⟩ :: l) loc tmp L := h
theorem is_assign (h : EO X ops cf k (i :: is) (⟨d, .assign x, ty, pos, aft, gd⟩ :: l) loc tmp L) : EO X ops cf k (i :: is) (⟨d, .assign x, ty, pos, aft, gd⟩ :: l) loc tmp L := h
theorem is_nilCheck (h : EO X ops cf k (i :: is) (⟨d, .nilCheck x, ty, pos, aft, gd⟩ :: l) loc tmp L) : EO X ops cf k (i :: is) (⟨d, .nilCheck x, ty, pos, aft, gd⟩ :: l) loc tmp L := h
theorem is_fieldAddr (h : EO X ops cf k (i :: is) (⟨d, .fieldAddr T x j, ty, pos, aft, gd⟩ :: l) loc tmp L) : EO X ops cf k (i :: is) (⟨d, .fieldAddr T x j, ty, pos, aft, gd⟩ :: l) loc tmp L := h
theorem is_load (h : EO X ops cf k (i :: is) (⟨d, .load T x, ty, pos, aft, gd⟩ :: l) loc tmp L) : EO X ops cf k (i :: is) (⟨d, .load T x, ty, pos, aft, gd⟩ :: l) loc tmp L := h
theorem is_store (h : EO X ops cf k (i :: is) (⟨d, .store T x y, ty, pos, aft, gd⟩ :: l) loc tmp L) : EO X ops cf k (i :: is) (⟨d, .store T x y, ty, pos, aft, gd⟩ :: l) loc tmp L := h
theorem is_convert (h : EO X ops cf k (i :: is) (⟨d, .convert S T x, ty, pos, aft, gd⟩ :: l) loc tmp L) : EO X ops cf k (i :: is) (⟨d, .convert S T x, ty, pos, aft, gd⟩ :: l) loc tmp L := h
theorem is_unOp (h : EO X ops cf k (i :: is) (⟨d, .unOp u T x, ty, pos, aft, gd⟩ :: l) loc tmp L) : EO X ops cf k (i :: is) (⟨d, .unOp u T x, ty, pos, aft, gd⟩ :: l) loc tmp L := h
theorem is_extract (h : EO X ops cf k (i :: is) (⟨d, .extract x j, ty, pos, aft, gd⟩ :: l) loc tmp L) : EO X ops cf k (i :: is) (⟨d, .extract x j, ty, pos, aft, gd⟩ :: l) loc tmp L := h
theorem is_pick (h : EO X ops cf k (i :: is) (⟨d, .pick x y z, ty, pos, aft, gd⟩ :: l) loc tmp L) : EO X ops cf k (i :: is) (⟨d, .pick x y z, ty, pos, aft, gd⟩ :: l) loc tmp L := h
theorem is_build (h : EO X ops cf k (i :: is) (⟨d, .build T ps, ty, pos, aft, gd⟩ :: l) loc tmp L) : EO X ops cf k (i :: is) (⟨d, .build T ps, ty, pos, aft, gd⟩ :: l) loc tmp L := h
theorem is_box (h : EO X ops cf k (i :: is) (⟨d, .box T x, ty, pos, aft, gd⟩ :: l) loc tmp L) : EO X ops cf k (i :: is) (⟨d, .box T x, ty, pos, aft, gd⟩ :: l) loc tmp L := h
theorem is_alloc (h : EO X ops cf k (i :: is) (⟨d, .alloc T, ty, pos, aft, gd⟩ :: l) loc tmp L) : EO X ops cf k (i :: is) (⟨d, .alloc T, ty, pos, aft, gd⟩ :: l) loc tmp L := h
theorem is_buildSlice (h : EO X ops cf k (i :: is) (⟨d, .buildSlice T j ps, ty, pos, aft, gd⟩ :: l) loc tmp L) : EO X ops cf k (i :: is) (⟨d, .buildSlice T j ps, ty, pos, aft, gd⟩ :: l) loc tmp L := h
theorem is_makeSlice (h : EO X ops cf k (i :: is) (⟨d, .makeSlice T x y, ty, pos, aft, gd⟩ :: l) loc tmp L) : EO X ops cf k (i :: is) (⟨d, .makeSlice T x y, ty, pos, aft, gd⟩ :: l) loc tmp L := h
theorem is_indexAddr (h : EO X ops cf k (i :: is) (⟨d, .indexAddr T x y, ty, pos, aft, gd⟩ :: l) loc tmp L) : EO X ops cf k (i :: is) (⟨d, .indexAddr T x y, ty, pos, aft, gd⟩ :: l) loc tmp L := h
theorem is_slice (h : EO X ops cf k (i :: is) (⟨d, .slice T x ox oy oz, ty, pos, aft, gd⟩ :: l) loc tmp L) : EO X ops cf k (i :: is) (⟨d, .slice T x ox oy oz, ty, pos, aft, gd⟩ :: l) loc tmp L := h
theorem is_makeInterface (h : EO X ops cf k (i :: is) (⟨d, .makeInterface S x, ty, pos, aft, gd⟩ :: l) loc tmp L) : EO X ops cf k (i :: is) (⟨d, .makeInterface S x, ty, pos, aft, gd⟩ :: l) loc tmp L := h
theorem is_append (h : EO X ops cf k (i :: is) (⟨d, .call ⟨.builtin .append, xs, tys⟩, ty, pos, aft, gd⟩ :: l) loc tmp L) : EO X ops cf k (i :: is) (⟨d, .call ⟨.builtin .append, xs, tys⟩, ty, pos, aft, gd⟩ :: l) loc tmp L := h
theorem is_index (h : EO X ops cf k (i :: is) (⟨d, .index T x y, ty, pos, aft, gd⟩ :: l) loc tmp L) : EO X ops cf k (i :: is) (⟨d, .index T x y, ty, pos, aft, gd⟩ :: l) loc tmp L := h
theorem is_len (h : EO X ops cf k (i :: is) (⟨d, .call ⟨.builtin .len, xs, tys⟩, ty, pos, aft, gd⟩ :: l) loc tmp L) : EO X ops cf k (i :: is) (⟨d, .call ⟨.builtin .len, xs, tys⟩, ty, pos, aft, gd⟩ :: l) loc tmp L := h
theorem is_add (h : EO X ops cf k (i :: is) (⟨d, .binOp .add T x y S, ty, pos, aft, gd⟩ :: l) loc tmp L) : EO X ops cf k (i :: is) (⟨d, .binOp .add T x y S, ty, pos, aft, gd⟩ :: l) loc tmp L := h
theorem is_sub (h : EO X ops cf k (i :: is) (⟨d, .binOp .sub T x y S, ty, pos, aft, gd⟩ :: l) loc tmp L) : EO X ops cf k (i :: is) (⟨d, .binOp .sub T x y S, ty, pos, aft, gd⟩ :: l) loc tmp L := h
theorem is_mul (h : EO X ops cf k (i :: is) (⟨d, .binOp .mul T x y S, ty, pos, aft, gd⟩ :: l) loc tmp L) : EO X ops cf k (i :: is) (⟨d, .binOp .mul T x y S, ty, pos, aft, gd⟩ :: l) loc tmp L := h
theorem is_quo (h : EO X ops cf k (i :: is) (⟨d, .binOp .quo T x y S, ty, pos, aft, gd⟩ :: l) loc tmp L) : EO X ops cf k (i :: is) (⟨d, .binOp .quo T x y S, ty, pos, aft, gd⟩ :: l) loc tmp L := h
theorem is_rem (h : EO X ops cf k (i :: is) (⟨d, .binOp .rem T x y S, ty, pos, aft, gd⟩ :: l) loc tmp L) : EO X ops cf k (i :: is) (⟨d, .binOp .rem T x y S, ty, pos, aft, gd⟩ :: l) loc tmp L := h
theorem is_and (h : EO X ops cf k (i :: is) (⟨d, .binOp .and T x y S, ty, pos, aft, gd⟩ :: l) loc tmp L) : EO X ops cf k (i :: is) (⟨d, .binOp .and T x y S, ty, pos, aft, gd⟩ :: l) loc tmp L := h
theorem is_or (h : EO X ops cf k (i :: is) (⟨d, .binOp .or T x y S, ty, pos, aft, gd⟩ :: l) loc tmp L) : EO X ops cf k (i :: is) (⟨d, .binOp .or T x y S, ty, pos, aft, gd⟩ :: l) loc tmp L := h
theorem is_xor (h : EO X ops cf k (i :: is) (⟨d, .binOp .xor T x y S, ty, pos, aft, gd⟩ :: l) loc tmp L) : EO X ops cf k (i :: is) (⟨d, .binOp .xor T x y S, ty, pos, aft, gd⟩ :: l) loc tmp L := h
theorem is_shl (h : EO X ops cf k (i :: is) (⟨d, .binOp .shl T x y S, ty, pos, aft, gd⟩ :: l) loc tmp L) : EO X ops cf k (i :: is) (⟨d, .binOp .shl T x y S, ty, pos, aft, gd⟩ :: l) loc tmp L := h
theorem is_shr (h : EO X ops cf k (i :: is) (⟨d, .binOp .shr T x y S, ty, pos, aft, gd⟩ :: l) loc tmp L) : EO X ops cf k (i :: is) (⟨d, .binOp .shr T x y S, ty, pos, aft, gd⟩ :: l) loc tmp L := h
theorem is_andNot (h : EO X ops cf k (i :: is) (⟨d, .binOp .andNot T x y S, ty, pos, aft, gd⟩ :: l) loc tmp L) : EO X ops cf k (i :: is) (⟨d, .binOp .andNot T x y S, ty, pos, aft, gd⟩ :: l) loc tmp L := h
theorem is_eql (h : EO X ops cf k (i :: is) (⟨d, .binOp .eql T x y S, ty, pos, aft, gd⟩ :: l) loc tmp L) : EO X ops cf k (i :: is) (⟨d, .binOp .eql T x y S, ty, pos, aft, gd⟩ :: l) loc tmp L := h
theorem is_neq (h : EO X ops cf k (i :: is) (⟨d, .binOp .neq T x y S, ty, pos, aft, gd⟩ :: l) loc tmp L) : EO X ops cf k (i :: is) (⟨d, .binOp .neq T x y S, ty, pos, aft, gd⟩ :: l) loc tmp L := h
theorem is_lss (h : EO X ops cf k (i :: is) (⟨d, .binOp .lss T x y S, ty, pos, aft, gd⟩ :: l) loc tmp L) : EO X ops cf k (i :: is) (⟨d, .binOp .lss T x y S, ty, pos, aft, gd⟩ :: l) loc tmp L := h
theorem is_leq (h : EO X ops cf k (i :: is) (⟨d, .binOp .leq T x y S, ty, pos, aft, gd⟩ :: l) loc tmp L) : EO X ops cf k (i :: is) (⟨d, .binOp .leq T x y S, ty, pos, aft, gd⟩ :: l) loc tmp L := h
theorem is_gtr (h : EO X ops cf k (i :: is) (⟨d, .binOp .gtr T x y S, ty, pos, aft, gd⟩ :: l) loc tmp L) : EO X ops cf k (i :: is) (⟨d, .binOp .gtr T x y S, ty, pos, aft, gd⟩ :: l) loc tmp L := h
theorem is_geq (h : EO X ops cf k (i :: is) (⟨d, .binOp .geq T x y S, ty, pos, aft, gd⟩ :: l) loc tmp L) : EO X ops cf k (i :: is) (⟨d, .binOp .geq T x y S, ty, pos, aft, gd⟩ :: l) loc tmp L := h
theorem is_guard {o : Op} {g : Nat × Bool} (h : EO X ops cf k (i :: is) (⟨d, o, ty, pos, aft, some g⟩ :: l) loc tmp L) : EO X ops cf k (i :: is) (⟨d, o, ty, pos, aft, some g⟩ :: l) loc tmp L := h
end
end Go.Proofs.YtcdalfhkhifplaaGreatDoor
namespace Go.Proofs.YtcdalfhkhifplaaGreatDoor
open Go
def enc (bs : List UInt8) : List Value := bs.map fun b => .int .u8 (b.toNat : Int)
theorem enc_len (bs : List UInt8) : (enc bs).length = bs.length := by simp [enc]
theorem enc_app (a b : List UInt8) : enc (a ++ b) = enc a ++ enc b := by simp [enc]
theorem enc_take (a : List UInt8) (n : Nat) : enc (a.take n) = (enc a).take n := by simp [enc, List.map_take]
theorem enc_drop (a : List UInt8) (n : Nat) : enc (a.drop n) = (enc a).drop n := by simp [enc, List.map_drop]
theorem enc_zeros (n : Nat) : enc (List.replicate n 0) = List.replicate n (.int .u8 0) := by simp [enc]
theorem enc_one {bs : List UInt8} : ∀ u ∈ enc bs, u.oneCell' = true := by
  intro u hu
  obtain ⟨b, _, rfl⟩ := List.mem_map.1 hu
  rfl
theorem enc_all (bs : List UInt8) : (enc bs).all (·.oneCell') = true := List.all_eq_true.2 fun u hu => enc_one u hu
def lay (B : List UInt8) (p : Nat) (bs : List UInt8) : List UInt8 :=
  let B' := B ++ List.replicate (p + bs.length - B.length) 0
  B'.take p ++ bs ++ B'.drop (p + bs.length)
theorem Rd.there {L : List HP} {B : Option Addr} {m sz : Nat} {news : List Value} (h : Rd L B m sz news) (A : HP) : Rd (A :: L) B m sz news :=
  ⟨h.1, h.2.imp id fun ⟨g, o, e, hc⟩ => ⟨g, o, e, hc.there⟩⟩
def str (l : List UInt8) : ByteArray := ⟨l.toArray⟩
theorem str_size (l : List UInt8) : (str l).size = l.length := by simp [str, ByteArray.size]
theorem str_data (l : List UInt8) : (str l).data.toList = l := rfl
theorem str_eta (s : ByteArray) : str s.data.toList = s := rfl
theorem str_extract (l : List UInt8) (a b : Nat) : (str l).extract a b = str ((l.take b).drop a) := by
  apply ByteArray.ext
  simp only [ByteArray.data_extract, str]
  apply Array.ext'
  simp [List.drop_take]
section
variable {X : Fx} {ops : Array Oper} {cf : Nat → Cls} {k : List Item} {i : Nat} {is : List Nat} {l : List Oper} {loc loc' : List Value} {tmp tmp' : List (Nat × Value)} {L L' F M : List HP}
  {d : Option Tmp} {ty : TypeId} {pos : String} {aft : Array Edge} {gd : Option (Nat × Bool)}
theorem x_sH {t b : Nat} {K' : IntKind} {s : List UInt8} {x z : Operand} {q : Int} [hv : NatV q b] [hu : StrTy X.P t] (hx : sv loc tmp x = some (.string (str s))) (hz : sv loc tmp z = some (.int K' q)) (hbs : b ≤ s.length)
    (hp : Pt loc tmp d (.string (str (s.take b))) loc' tmp') (h : EO X ops cf k is l loc' tmp' L)
    (hg : gdv ops loc tmp gd = some true := by rfl) (hd : dOK X.n d = true := by rfl) : EO X ops cf k (i :: is) (⟨d, .slice t x none (some z) none, ty, pos, aft, gd⟩ :: l) loc tmp L :=
  x_slStrH hx hz hv.h (by rw [str_size]; exact hbs) (by rw [str_extract]; simpa using hp) h hg hd
theorem x_sL {t a : Nat} {K : IntKind} {s : List UInt8} {x y : Operand} {p : Int} [hv : NatV p a] [hu : StrTy X.P t] (hx : sv loc tmp x = some (.string (str s))) (hy : sv loc tmp y = some (.int K p)) (hab : a ≤ s.length)
    (hp : Pt loc tmp d (.string (str (s.drop a))) loc' tmp') (h : EO X ops cf k is l loc' tmp' L)
    (hg : gdv ops loc tmp gd = some true := by rfl) (hd : dOK X.n d = true := by rfl) : EO X ops cf k (i :: is) (⟨d, .slice t x (some y) none none, ty, pos, aft, gd⟩ :: l) loc tmp L :=
  x_slStrL hx hy hv.h (by rw [str_size]; exact hab) (by rw [str_extract, str_size, List.take_length]; exact hp) h hg hd
theorem x_sAt {t a : Nat} {K : IntKind} {s : List UInt8} {x y : Operand} {p : Int} {c : UInt8} [hv : NatV p a] [hu : StrTy X.P t] (hx : sv loc tmp x = some (.string (str s))) (hy : sv loc tmp y = some (.int K p)) (hc : s[a]? = some c)
    (hp : Pt loc tmp d (.int .u8 (c.toNat : Int)) loc' tmp') (h : EO X ops cf k is l loc' tmp' L)
    (hg : gdv ops loc tmp gd = some true := by rfl) (hd : dOK X.n d = true := by rfl) : EO X ops cf k (i :: is) (⟨d, .index t x y, ty, pos, aft, gd⟩ :: l) loc tmp L :=
  x_pure hg (fun a' hr w => by
    have hu := hu.h
    have hsz : a < (str s).size := by rw [str_size]; exact (List.getElem?_eq_some_iff.1 hc).1
    have hb : (str s)[a]? = some c := by
      rw [getElem?_pos (str s) a hsz]
      obtain ⟨h1, h2⟩ := List.getElem?_eq_some_iff.1 hc
      congr 1
    have h0 : (0 : Int) ≤ a := by omega
    simp [execOp, hr.ev hx, hr.ev hy, hv.h, Instr.index, asIntOf, run_underlying hu, hb]) hp hd h
theorem x_lenT {t : TypeId} {x : Operand} {s : List UInt8} [hu : StrTy X.P t] (hx : sv loc tmp x = some (.string (str s))) (hp : Pt loc tmp d (.int .i64 s.length) loc' tmp') (h : EO X ops cf k is l loc' tmp' L)
    (hg : gdv ops loc tmp gd = some true := by rfl) (hd : dOK X.n d = true := by rfl) : EO X ops cf k (i :: is) (⟨d, .call ⟨.builtin .len, #[x], #[t]⟩, ty, pos, aft, gd⟩ :: l) loc tmp L :=
  x_lenS hx (by rw [str_size]; exact hp) h hg hd
theorem str_toList (l : List UInt8) : (str l).toList = l := by rw [Lib.toList_data]; rfl
theorem x_sEq {T T' : Nat} {x y : Operand} {s t : List UInt8} {v : Bool} (hx : sv loc tmp x = some (.string (str s))) (hy : sv loc tmp y = some (.string (str t))) (hv : (s == t) = v)
    (hp : Pt loc tmp d (.bool v) loc' tmp') (h : EO X ops cf k is l loc' tmp' L)
    (hg : gdv ops loc tmp gd = some true := by rfl) (hd : dOK X.n d = true := by rfl) : EO X ops cf k (i :: is) (⟨d, .binOp .eql T x y T', ty, pos, aft, gd⟩ :: l) loc tmp L :=
  x_str (op := .eql) (v := v) hx hy (by simp only [str_toList, hv]) hp h hg hd
theorem x_sNe {T T' : Nat} {x y : Operand} {s t : List UInt8} {v : Bool} (hx : sv loc tmp x = some (.string (str s))) (hy : sv loc tmp y = some (.string (str t))) (hv : (s != t) = v)
    (hp : Pt loc tmp d (.bool v) loc' tmp') (h : EO X ops cf k is l loc' tmp' L)
    (hg : gdv ops loc tmp gd = some true := by rfl) (hd : dOK X.n d = true := by rfl) : EO X ops cf k (i :: is) (⟨d, .binOp .neq T x y T', ty, pos, aft, gd⟩ :: l) loc tmp L :=
  x_str (op := .neq) (v := v) hx hy (by simp only [str_toList]; rw [← hv]; rfl) hp h hg hd
theorem fold_str : ∀ (bs : List UInt8) (r : List UInt8), (bs.map fun b => (b.toNat : Int)).foldl (fun r n => r.push (UInt8.ofNat n.toNat)) (str r) = str (r ++ bs)
  | [], r => by simp
  | b :: bs, r => by
    have h1 : (str r).push b = str (r ++ [b]) := by
      apply ByteArray.ext
      simp [str]
    have h2 : UInt8.ofNat ((b.toNat : Int).toNat) = b := by simp
    simp only [List.map_cons, List.foldl_cons, h2, h1]
    rw [fold_str bs (r ++ [b]), List.append_assoc]; rfl
theorem x_toStr {S T e g o n c : Nat} {x : Operand} {bs : List UInt8} [SlTy X.P S e 1] [StrTy X.P T] [hI : IntTy X.P e .u8] (hx : sv loc tmp x = some (.slice (some ⟨g, o, none⟩) n c)) (hr : CellRow L g o (enc bs)) (hn : bs.length = n)
    (hp : Pt loc tmp d (.string (str bs)) loc' tmp') (h : EO X ops cf k is l loc' tmp' L)
    (hg : gdv ops loc tmp gd = some true := by rfl) (hd : dOK X.n d = true := by rfl) (hcl : (cf i).reads = true := by rfl) : EO X ops cf k (i :: is) (⟨d, .convert S T x, ty, pos, aft, gd⟩ :: l) loc tmp L :=
  x_read hg hcl (fun a hrl w0 S0 w hs q => by
    obtain ⟨hu, _⟩ := SlTy.out (P := X.P) (T := S) (e := e) (sz := 1)
    have hu' := (inferInstance : StrTy X.P T).h
    have he := IntTy.out (P := X.P) (T := e) (K := .u8)
    have hld := run_loadCells_list (P := X.P) (wat w q) ⟨g, o, none⟩ (enc bs) (fun j v hv => by rw [add_at]; exact (hr j v hv).at_ (hs.wat q))
    rw [enc_len, hn] at hld
    have hm : enc bs = (bs.map fun b => (b.toNat : Int)).map (Value.int .u8) := by simp [enc]
    rw [hm] at hld
    have hrun := run_bytesToString (P := X.P) (wat w q) ⟨g, o, none⟩ n c _ hld
    have hf := fold_str bs []
    have he0 : ByteArray.empty = str [] := rfl
    rw [he0, hf] at hrun
    simp [RunN, execOp, hrl.ev hx, convert, run_underlying hu, run_underlying hu', run_underlying he, hrun]
    exact nrm_wat w q) hp hd h
theorem x_copyS {t t' e g o dn dc : Nat} {x y : Operand} {s : List UInt8} [SlTy X.P t e 1] (hx : sv loc tmp x = some (.slice (some ⟨g, o, none⟩) dn dc)) (hy : sv loc tmp y = some (.string (str s)))
    (hw : PutR L g o (enc (s.take dn)) L') (hp : Pt loc tmp d (.int .i64 (min s.length dn : Nat)) loc' tmp') (h : EO X ops cf k is l loc' tmp' L')
    (hg : gdv ops loc tmp gd = some true := by rfl) (hd : dOK X.n d = true := by rfl) (hcl : cf i = .any := by rfl) (hq : X.q = false := by rfl) :
    EO X ops cf k (i :: is) (⟨d, .call ⟨.builtin .copy, #[x, y], #[t, t']⟩, ty, pos, aft, gd⟩ :: l) loc tmp L :=
  x_any (Rv := fun v L'' => v = .int .i64 (min s.length dn : Nat) ∧ L'' = L') hg hcl (fun a hrl w0 S0 w hs q => by
    obtain ⟨hu, j, hj, hz⟩ := SlTy.out (P := X.P) (T := t) (e := e) (sz := 1)
    obtain ⟨cur, tt, hgc, hl, hs'⟩ := hw.st (hs.wat q)
    have hld : (Builtin.firstCells 1 (min s.length dn) (.string (str s))).run X.P (wat w q) = .ok (enc (s.take dn)).toArray (wat w q) := by
      have e1 : s.take (min s.length dn) = s.take dn := by
        rcases Nat.le_total s.length dn with h1 | h1
        · rw [Nat.min_eq_left h1, List.take_length, List.take_of_length_le h1]
        · rw [Nat.min_eq_right h1]
      simp only [Builtin.firstCells, str_extract, List.drop_zero, e1, Sem.run_pure]
      simp [str, enc]
    have hst := run_storeCells_at X.P g o tt (enc (s.take dn)) 0 cur (wat w q) hgc (by simpa using hl) (fun v hv => enc_one v hv)
    simp only [Nat.add_zero] at hst
    have e : ovw cur.toList o (enc (s.take dn)) = cur.toList.take o ++ enc (s.take dn) ++ cur.toList.drop (o + (enc (s.take dn)).length) := rfl
    have hmin : Nat.min s.length dn = min s.length dn := rfl
    simp only [RunN, execOp, resolve, invoke, builtin, Builtin.copy_, Builtin.lenOf, List.map_toArray, List.map_cons, List.map_nil, hrl.ev hx, hrl.ev hy, Sem.run_bind, Sem.run_pure, Result.andThen_ok, run_underlying hu, str_size, hmin,
      List.getElem?_toArray, List.getElem?_cons_zero, List.getElem?_cons_succ, sizeOf, typeInfo, run_program, hj, hz, hld, hst]
    rw [hq]
    exact ⟨L', ⟨rfl, rfl⟩, by rw [← e]; exact hs'⟩) hd (fun v L'' ⟨e1, e2⟩ => by subst e1 e2; exact ⟨_, _, hp, h⟩)
end
section
variable {X : Fx} {ops : Array Oper} {cf : Nat → Cls} {k : List Item} {i : Nat} {is : List Nat} {l : List Oper} {loc loc' : List Value} {tmp tmp' : List (Nat × Value)} {L L' F M : List HP}
  {d : Option Tmp} {ty : TypeId} {pos : String} {aft : Array Edge} {gd : Option (Nat × Bool)}
theorem x_appE {t e n m c c' g o : Nat} {z : Value} {x y : Operand} {A : Option Addr} {bs us : List UInt8} [SlE X.P t e 1 1 [z]] (hx : sv loc tmp x = some (.slice A n c)) (hy : sv loc tmp y = some (.slice (some ⟨g, o, none⟩) m c'))
    (ht : Take (Own A c e 1 n (enc bs)) L F) (hr : CellRow F g o (enc us)) (hm : us.length = m) (h63 : n + m ≤ 1000000000000)
    (h : ∀ A' c', ∃ loc' tmp', Pt loc tmp d (.slice A' (n + m) c') loc' tmp' ∧ EO X ops cf k is l loc' tmp' (Own A' c' e 1 (n + m) (enc (bs ++ us)) :: F))
    (hg : gdv ops loc tmp gd = some true := by rfl) (hd : dOK X.n d = true := by rfl) (hcl : cf i = .any := by rfl) (hq : X.q = false := by rfl) :
    EO X ops cf k (i :: is) (⟨d, .call ⟨.builtin .append, #[x, y], #[t, t]⟩, ty, pos, aft, gd⟩ :: l) loc tmp L :=
  x_app1 hx hy ht hr (by rw [enc_len, hm]) (enc_all us) h63 (by omega) (by simpa [enc_app] using h) hg hd hcl hq
end
theorem Rd.take {M : HP} {L F : List HP} {B : Option Addr} {m sz : Nat} {news : List Value} (h : Rd [M] B m sz news) (ht : Take M L F) : Rd L B m sz news := by
  obtain ⟨h1, h2⟩ := h
  refine ⟨h1, h2.imp id fun ⟨g, o, e, hc⟩ => ⟨g, o, e, fun j v hj mm S hS => ?_⟩⟩
  obtain ⟨S1, S2, a, _⟩ := sats_perm ht.perm hS
  exact hc j v hj mm S1 (sats_one a)
theorem Rd.own {g c e n : Nat} {vs : List Value} (h : vs.length = n) : Rd [Own (some ⟨g, 0, none⟩) c e 1 n vs] (some ⟨g, 0, none⟩) n 1 vs := ⟨by omega, .inr ⟨g, 0, rfl, by
  intro j v hj mm S hS
  simp only [Nat.zero_add]
  obtain ⟨_, _, _, ⟨h, _⟩ | ⟨g', junk, h, _, hg, _⟩⟩ := sats_one' hS
  · cases h
  · cases h
    refine ⟨_, _, _, hg, ?_⟩
    have := (List.getElem?_eq_some_iff.1 hj).1
    simp only [List.getElem?_toArray]
    rw [List.getElem?_append_left this, hj]⟩⟩
end Go.Proofs.YtcdalfhkhifplaaGreatDoor
namespace Go.Proofs.YtcdalfhkhifplaaGreatDoor
open Go
section ops
variable {X : Fx} {ops : Array Oper} {cf : Nat → Cls} {k : List Item} {i : Nat} {is : List Nat} {l : List Oper} {loc loc' : List Value} {tmp tmp' : List (Nat × Value)} {L L' F : List HP}
  {d : Option Tmp} {ty : TypeId} {pos : String} {aft : Array Edge} {gd : Option (Nat × Bool)}
theorem x_idxA {t n e sz a : Nat} {x y : Operand} {K : IntKind} {p : Int} {cs us : List Value} [hv : NatV p a] [ha : ArrTy X.P t n e sz] [hag : AggSz X.P e sz] (hx : sv loc tmp x = some (.agg cs.toArray)) (hy : sv loc tmp y = some (.int K p)) (hn : a < n) (hu : (cs.drop (a * sz)).take sz = us)
    (hp : Pt loc tmp d (.agg us.toArray) loc' tmp') (h : EO X ops cf k is l loc' tmp' L)
    (hg : gdv ops loc tmp gd = some true := by rfl) (hd : dOK X.n d = true := by rfl) : EO X ops cf k (i :: is) (⟨d, .index t x y, ty, pos, aft, gd⟩ :: l) loc tmp L :=
  x_pure hg (fun A hr w => by
    obtain ⟨hu', j, hj, hz⟩ := ArrTy.out (P := X.P) (T := t) (n := n) (e := e) (sz := sz)
    obtain ⟨dd, j', hdd, hd2, hj', hz'⟩ := AggSz.out (P := X.P) (T := e) (n := sz)
    have hisag : (isAgg e).run X.P w = .ok true w := by
      unfold isAgg
      simp only [Sem.run_bind, run_underlying hdd, Result.andThen_ok]
      cases dd <;> simp_all
    subst hu
    have h0 : (0 : Int) ≤ a := by omega
    have h1 : (a : Int) < n := by omega
    simp [execOp, hr.ev hx, hr.ev hy, hv.h, Instr.index, asIntOf, run_underlying hu', h0, h1, hn, part, hisag, sizeOf, typeInfo, hj, hz, List.extract_eq_take_drop]) hp hd h
theorem x_min {t : TypeId} {K : IntKind} {x y : Operand} {p q : Int} {a b : Nat} [hpa : NatV p a] [hqb : NatV q b] (hx : sv loc tmp x = some (.int K p)) (hy : sv loc tmp y = some (.int K q)) (hp : Pt loc tmp d (.int K ((min a b : Nat) : Int)) loc' tmp') (h : EO X ops cf k is l loc' tmp' L)
    (hg : gdv ops loc tmp gd = some true := by rfl) (hd : dOK X.n d = true := by rfl) : EO X ops cf k (i :: is) (⟨d, .call ⟨.builtin .min, #[x, y], #[t, t]⟩, ty, pos, aft, gd⟩ :: l) loc tmp L :=
  x_pure hg (fun A hr w => by
    have : (if q < p then q else p) = ((min a b : Nat) : Int) := by rw [hpa.h, hqb.h]; split <;> omega
    simp [execOp, resolve, invoke, builtin, Builtin.min_, Builtin.min2, hr.ev hx, hr.ev hy, this]) hp hd h
theorem x_max {t : TypeId} {K : IntKind} {x y : Operand} {p q : Int} {a b : Nat} [hpa : NatV p a] [hqb : NatV q b] (hx : sv loc tmp x = some (.int K p)) (hy : sv loc tmp y = some (.int K q)) (hp : Pt loc tmp d (.int K ((max a b : Nat) : Int)) loc' tmp') (h : EO X ops cf k is l loc' tmp' L)
    (hg : gdv ops loc tmp gd = some true := by rfl) (hd : dOK X.n d = true := by rfl) : EO X ops cf k (i :: is) (⟨d, .call ⟨.builtin .max, #[x, y], #[t, t]⟩, ty, pos, aft, gd⟩ :: l) loc tmp L :=
  x_pure hg (fun A hr w => by
    have : (if p < q then q else p) = ((max a b : Nat) : Int) := by rw [hpa.h, hqb.h]; split <;> omega
    simp [execOp, resolve, invoke, builtin, Builtin.max_, Builtin.max2, hr.ev hx, hr.ev hy, this]) hp hd h
theorem x_cap {t : TypeId} {e sz : Nat} {x : Operand} {A : Option Addr} {n c : Nat} [SlTy X.P t e sz] (hx : sv loc tmp x = some (.slice A n c)) (hp : Pt loc tmp d (.int .i64 c) loc' tmp') (h : EO X ops cf k is l loc' tmp' L)
    (hg : gdv ops loc tmp gd = some true := by rfl) (hd : dOK X.n d = true := by rfl) : EO X ops cf k (i :: is) (⟨d, .call ⟨.builtin .cap, #[x], #[t]⟩, ty, pos, aft, gd⟩ :: l) loc tmp L :=
  x_pure hg (fun a hr w => by
    obtain ⟨hu, _⟩ := SlTy.out (P := X.P) (T := t) (e := e) (sz := sz)
    simp [execOp, resolve, invoke, builtin, Builtin.cap_, hr.ev hx, run_underlying hu, goInt]) hp hd h
theorem x_entry {g gm j : Nat} {x : Operand} {es : Ents} {done : List Nat} {s : ByteArray} {u : Value} (hx : sv loc tmp x = some (.pointer (some ⟨g, 0, none⟩))) (ht : Take (MapIt g gm es (j :: done)) L F) (he : es[j]? = some (s, u))
    (hp : Pt loc tmp d (.tuple #[.string s, u]) loc' tmp') (h : EO X ops cf k is l loc' tmp' L)
    (hg : gdv ops loc tmp gd = some true := by rfl) (hd : dOK X.n d = true := by rfl) (hcl : (cf i).reads = true := by rfl) : EO X ops cf k (i :: is) (⟨d, .entry x, ty, pos, aft, gd⟩ :: l) loc tmp L :=
  x_read hg hcl (fun a hr w0 S0 w hs n => by
    have hs1 := (hs.wat n).perm ht.perm
    obtain ⟨S, ⟨S1, S2, ⟨hne, hS1, E, clock, seen, hE, hok, hI, hnd, hdl, hseen, hb⟩, _⟩, _⟩ := hs1.sat
    have hE' : (wat w n).heap[gm]? = some (.map E.toArray clock) := hE
    have hI' : (wat w n).heap[g]? = some (.mapIter (some gm) clock seen clock) := hI
    have hgo : (getObj gm).run X.P (wat w n) = .ok (.map E.toArray clock) (wat w n) := by simp [getObj, Sem.run, hE']
    have hgi : (getObj g).run X.P (wat w n) = .ok (.mapIter (some gm) clock seen clock) (wat w n) := by simp [getObj, Sem.run, hI']
    obtain ⟨e, h1, h2⟩ := hb j rfl
    have hkv := congrArg (·[j]?) hok.kv
    simp only [List.getElem?_map, h1, he, Option.map_some, Option.some.injEq, Prod.mk.injEq] at hkv
    have hf : E.find? (·.born == e.born) = some e := by
      obtain ⟨hjl, hje⟩ := List.getElem?_eq_some_iff.1 h1
      rw [List.find?_eq_some_iff_getElem]
      refine ⟨by simp, j, hjl, hje, fun q hq => ?_⟩
      simp only [Bool.not_eq_true', beq_eq_false_iff_ne, ne_eq]
      intro hc
      have : q = j := by
        refine (List.getElem_inj (xs := E.map (·.born)) (h₀ := by simpa using (Nat.lt_trans hq hjl)) (h₁ := by simpa using hjl) hok.bn).1 ?_
        simp only [List.getElem_map, hje]; exact hc
      omega
    simp [RunN, execOp, hr.ev hx, Instr.entry, hgo, hgi, h2, hf, hkv.1, hkv.2]
    exact nrm_wat w n) hp hd h
theorem is_min {xs : Array Operand} {tys : Array TypeId} (h : EO X ops cf k (i :: is) (⟨d, .call ⟨.builtin .min, xs, tys⟩, ty, pos, aft, gd⟩ :: l) loc tmp L) : EO X ops cf k (i :: is) (⟨d, .call ⟨.builtin .min, xs, tys⟩, ty, pos, aft, gd⟩ :: l) loc tmp L := h
theorem is_max {xs : Array Operand} {tys : Array TypeId} (h : EO X ops cf k (i :: is) (⟨d, .call ⟨.builtin .max, xs, tys⟩, ty, pos, aft, gd⟩ :: l) loc tmp L) : EO X ops cf k (i :: is) (⟨d, .call ⟨.builtin .max, xs, tys⟩, ty, pos, aft, gd⟩ :: l) loc tmp L := h
theorem is_cap {xs : Array Operand} {tys : Array TypeId} (h : EO X ops cf k (i :: is) (⟨d, .call ⟨.builtin .cap, xs, tys⟩, ty, pos, aft, gd⟩ :: l) loc tmp L) : EO X ops cf k (i :: is) (⟨d, .call ⟨.builtin .cap, xs, tys⟩, ty, pos, aft, gd⟩ :: l) loc tmp L := h
theorem is_entry {x : Operand} (h : EO X ops cf k (i :: is) (⟨d, .entry x, ty, pos, aft, gd⟩ :: l) loc tmp L) : EO X ops cf k (i :: is) (⟨d, .entry x, ty, pos, aft, gd⟩ :: l) loc tmp L := h
theorem is_makeFunc {fn : Go.Fn} {xs ys : Array Operand} (h : EO X ops cf k (i :: is) (⟨d, .makeFunc fn xs ys, ty, pos, aft, gd⟩ :: l) loc tmp L) : EO X ops cf k (i :: is) (⟨d, .makeFunc fn xs ys, ty, pos, aft, gd⟩ :: l) loc tmp L := h
theorem is_field {T j : Nat} {x : Operand} (h : EO X ops cf k (i :: is) (⟨d, .field T x j, ty, pos, aft, gd⟩ :: l) loc tmp L) : EO X ops cf k (i :: is) (⟨d, .field T x j, ty, pos, aft, gd⟩ :: l) loc tmp L := h
end ops
inductive Cut : List Value → Nat → Nat → List Value → Prop where
  | nil {cs : List Value} : Cut cs 0 0 []
  | skip {c : Value} {cs vs : List Value} {o n : Nat} : Cut cs o n vs → Cut (c :: cs) (o + 1) n vs
  | take {c : Value} {cs vs : List Value} {n : Nat} : Cut cs 0 n vs → Cut (c :: cs) 0 (n + 1) (c :: vs)
theorem Cut.spec {cs vs : List Value} {o n : Nat} (h : Cut cs o n vs) : vs.length = n ∧ ∀ (j : Nat) (v : Value), vs[j]? = some v → cs[o + j]? = some v := by
  induction h with
  | nil => exact ⟨rfl, fun j v h => by simp at h⟩
  | skip _ ih => exact ⟨ih.1, fun j v h => by have := ih.2 j v h; rw [Nat.add_right_comm]; simpa using this⟩
  | take _ ih => exact ⟨by simp [ih.1], fun j v h => by cases j with | zero => simpa using h | succ j => have := ih.2 j v (by simpa using h); simpa using this⟩
inductive Rows : List HP → Nat → Nat → Nat → List Value → Prop where
  | here {g o n : Nat} {t : TypeId} {cs vs : List Value} {L : List HP} : Cut cs o n vs → Rows (Cells g t cs :: L) g o n vs
  | there {g o n : Nat} {vs : List Value} {A : HP} {L : List HP} : Rows L g o n vs → Rows (A :: L) g o n vs
theorem Rows.row {L : List HP} {g o n : Nat} {vs : List Value} (h : Rows L g o n vs) : CellRow L g o vs ∧ vs.length = n := by
  induction h with
  | @here g o n t cs vs L hc =>
    refine ⟨fun j v hj => ?_, hc.spec.1⟩
    have := hc.spec.2 j v hj
    intro h S hs
    have h1 := (CellRow.here (g := g) (t := t) (cs := cs) (L := L)) (o + j) v this h S hs
    simpa using h1
  | there _ ih => exact ⟨ih.1.there, ih.2⟩
section ops
variable {X : Fx} {ops : Array Oper} {cf : Nat → Cls} {k : List Item} {i : Nat} {is : List Nat} {l : List Oper} {loc loc' : List Value} {tmp tmp' : List (Nat × Value)} {L L' F : List HP}
  {d : Option Tmp} {ty : TypeId} {pos : String} {aft : Array Edge} {gd : Option (Nat × Bool)}
theorem x_loadS {T n g o : Nat} {x : Operand} {vs : List Value} [AggSz X.P T n] (hx : sv loc tmp x = some (.pointer (some ⟨g, o, none⟩))) (hc : Rows L g o n vs) (hp : Pt loc tmp d (.agg vs.toArray) loc' tmp') (h : EO X ops cf k is l loc' tmp' L)
    (hg : gdv ops loc tmp gd = some true := by rfl) (hd : dOK X.n d = true := by rfl) (hcl : (cf i).reads = true := by rfl) : EO X ops cf k (i :: is) (⟨d, .load T x, ty, pos, aft, gd⟩ :: l) loc tmp L :=
  x_loadA hx hc.row.1 hc.row.2 hp h hg hd hcl
end ops
section
variable {X : Fx} {k : List Item} {loc : List Value} {tmp : List (Nat × Value)} {L F M : List HP}
theorem results_cell {fn : Func} {p T n g o : Nat} {vs : List Value} [AggSz X.P T n] (hts : fn.results = #[.cell p T]) {m : Nat} {a : Act} (hr : Rel m loc tmp a) (hx : sv loc tmp (.tmp p) = some (.pointer (some ⟨g, o, none⟩))) (hc : CellRow L g o vs) (hn : vs.length = n)
    {q : Bool} {w0 w : World} {S0 : Nat → Prop} (hs : St q w0 S0 L w) : (results fn a.tmps).run X.P w = .ok (.agg vs.toArray) w := by
  obtain ⟨dd, j, hu, hdd, hj, hz⟩ := AggSz.out (P := X.P) (T := T) (n := n)
  have hag : (isAgg T).run X.P w = .ok true w := by
    unfold isAgg
    simp only [Sem.run_bind, run_underlying hu, Result.andThen_ok]
    cases dd <;> simp_all
  have hl : (loadCells ⟨g, o, none⟩ vs.length).run X.P w = .ok vs.toArray w :=
    run_loadCells_list (P := X.P) w ⟨g, o, none⟩ vs (fun j v hv => by rw [add_at]; exact (hc j v hv).at_ hs)
  rw [hn] at hl
  have hg : a.tmps.getD p undef = .pointer (some ⟨g, o, none⟩) := tmps_getD hr hx
  unfold results
  rw [hts]
  rw [Array.getD_eq_getD_getElem?] at hg
  simp [hg, asAddr, loadVar, hag, sizeOf, typeInfo, hj, hz, hl]
theorem e_retC {p T n g o : Nat} {vs : List Value} [AggSz X.P T n] (hts : X.fn.results = #[.cell p T]) (hx : sv loc tmp (.tmp p) = some (.pointer (some ⟨g, o, none⟩))) (hc : CellRow L g o vs) (hn : vs.length = n) (h : ∃ M F, X.R (.agg vs.toArray) M ∧ Subs M L F) : E X (.code .ret :: k) loc tmp L := by
  obtain ⟨M, F, h, hsub⟩ := h
  exact fun w0 S0 a w hr hs => tt_leave X.hf hr.defers (fun m => results_cell hts hr hx hc hn (hs.wat m)) ⟨M, h, (hs.some hsub).nrm⟩
end
section ops
variable {X : Fx} {ops : Array Oper} {cf : Nat → Cls} {k : List Item} {i : Nat} {is : List Nat} {l : List Oper} {loc loc' : List Value} {tmp tmp' : List (Nat × Value)} {L L' F : List HP}
  {d : Option Tmp} {ty : TypeId} {pos : String} {aft : Array Edge} {gd : Option (Nat × Bool)}
theorem x_catT {T T' : Nat} {x y : Operand} {s t : List UInt8} (hx : sv loc tmp x = some (.string (str s))) (hy : sv loc tmp y = some (.string (str t))) (hn : s.length + t.length ≤ 9223372036854775807)
    (hp : Pt loc tmp d (.string (str (s ++ t))) loc' tmp') (h : EO X ops cf k is l loc' tmp' L)
    (hg : gdv ops loc tmp gd = some true := by rfl) (hd : dOK X.n d = true := by rfl) : EO X ops cf k (i :: is) (⟨d, .binOp .add T x y T', ty, pos, aft, gd⟩ :: l) loc tmp L :=
  x_cat hx hy (by rw [str_size, str_size]; exact hn) (by
    have : str s ++ str t = str (s ++ t) := by apply ByteArray.ext; simp [str]
    rw [this]; exact hp) h hg hd
end ops
theorem and_not3 (a : Nat) (h : a < 9223372036854775808) : (BitVec.ofNat 64 a &&& ~~~ (BitVec.ofNat 64 3)).toNat = a / 4 * 4 := by
  apply Nat.eq_of_testBit_eq
  intro i
  have e : a / 4 * 4 = (a >>> 2) <<< 2 := by rw [Nat.shiftRight_eq_div_pow, Nat.shiftLeft_eq]
  rw [e, BitVec.toNat_and, Nat.testBit_and, Nat.testBit_shiftLeft, Nat.testBit_shiftRight, BitVec.toNat_ofNat, Nat.mod_eq_of_lt (by omega)]
  by_cases hi : i < 2
  · rcases (show i = 0 ∨ i = 1 by omega) with rfl | rfl
    · simp
    · have : Nat.testBit 18446744073709551612 1 = false := by decide
      simp [this]
  · rw [show 2 + (i - 2) = i by omega]
    have h2 : decide (i ≥ 2) = true := by simp; omega
    rw [h2, Bool.true_and]
    by_cases hb : i < 64
    · have : (~~~(BitVec.ofNat 64 3)).toNat.testBit i = true := by
        rw [BitVec.testBit_toNat, BitVec.getLsbD_not, BitVec.getLsbD_ofNat]
        have h3 : Nat.testBit 3 i = false := by
          apply Nat.testBit_lt_two_pow
          exact Nat.lt_of_lt_of_le (by decide : 3 < 2 ^ 2) (Nat.pow_le_pow_right (by decide) (by omega))
        simp [hb, h3]
      rw [this, Bool.and_true]
    · have : a.testBit i = false := by
        apply Nat.testBit_lt_two_pow
        exact Nat.lt_of_lt_of_le (show a < 2 ^ 63 by omega) (Nat.pow_le_pow_right (by decide) (by omega))
      rw [this, Bool.false_and]
theorem bAndNot3 {p : Int} {a : Nat} [hp : NatV p a] (ha : a < 9223372036854775808) : binI .andNot .i64 p 3 = some (.int .i64 ((a / 4 * 4 : Nat) : Int)) := by
  have h1 := and_not3 a ha
  have h2 : (BitVec.ofInt 64 (3 : Int)) = BitVec.ofNat 64 3 := rfl
  rw [hp.h]
  have h3 : binI .andNot .i64 (a : Int) 3 = some (.int .i64 (IntKind.i64.wrap ((BitVec.ofNat 64 a &&& ~~~ (BitVec.ofNat 64 3)).toNat : Int))) := by
    show some (Value.int .i64 (IntKind.i64.wrap (((BitVec.ofInt 64 (a : Int) &&& ~~~ (BitVec.ofInt 64 3)).toNat : Nat) : Int))) = _
    rw [ofInt_nat, h2]
  rw [h3, h1, wi64 (by omega) (by omega)]
end Go.Proofs.YtcdalfhkhifplaaGreatDoor
namespace Go.Proofs.YtcdalfhkhifplaaGreatDoor
open Go
class DrawD (f id : Nat) (cs : outParam (List Cls)) (M pi : outParam (List Nat)) : Prop where t : True
class PairD (f id : Nat) (cs : outParam (List Cls)) (M pre : outParam (List Nat)) (x y : outParam Nat) (post : outParam (List Nat)) : Prop where t : True
class PlanD (f id : Nat) (cs : outParam (List Cls)) (M pi seq : outParam (List Nat)) (p : outParam Pln) : Prop where t : True
class KeepT (f : Nat) (ks : outParam (List Nat)) : Prop where t : True
instance : DrawD 3 20 [.pure, .read, .pure, .pure, .read, .read, .pure, .pure, .pure, .read, .pure, .pure, .pure, .read, .read, .pure, .read, .pure, .pure, .pure] [0, 1, 0, 7, 15, 31, 63, 127, 255, 511, 255, 2047, 4095, 8191, 16383, 255, 33023, 131071, 262143, 524287] [0, 1, 2, 3, 4, 5, 6, 7, 8, 9, 10, 11, 12, 13, 14, 15, 16, 17, 18, 19] := ⟨trivial⟩
instance : DrawD 8 5 [.pure, .pure, .pure, .pure, .read, .pure, .pure, .pure, .pure] [0, 0, 2, 6, 14, 30, 62, 1, 255] [0, 1, 2, 3, 4, 5, 6, 7, 8] := ⟨trivial⟩
instance : DrawD 9 2 [.pure, .pure, .pure, .read, .pure, .pure, .pure, .read, .pure, .pure, .new, .pure] [0, 1, 3, 7, 0, 16, 48, 112, 255, 511, 1023, 2047] [0, 1, 2, 3, 4, 5, 6, 7, 8, 9, 10, 11] := ⟨trivial⟩
instance : DrawD 9 26 [.read, .pure, .read, .pure, .pure, .read, .pure, .read, .any, .any] [0, 0, 2, 0, 0, 16, 56, 120, 255, 511] [0, 1, 2, 3, 4, 5, 6, 7, 8, 9] := ⟨trivial⟩
instance : DrawD 14 20 [.pure, .pure, .read, .pure, .read, .new, .any, .pure] [0, 0, 2, 0, 8, 24, 63, 127] [0, 1, 2, 3, 4, 5, 6, 7] := ⟨trivial⟩
instance : DrawD 14 38 [.pure, .pure, .pure, .pure, .read, .pure, .pure, .pure] [0, 0, 2, 6, 14, 1, 33, 127] [0, 1, 2, 3, 4, 5, 6, 7] := ⟨trivial⟩
instance : PairD 15 5 [.pure, .read, .any, .pure, .pure, .read, .any, .pure, .any, .pure, .pure, .any] [0, 1, 3, 0, 8, 24, 63, 63, 255, 511, 1023, 2047] [0, 1, 3, 4] 2 5 [7, 6, 8, 9, 10, 11] := ⟨trivial⟩
instance : DrawD 16 18 [.pure, .pure, .pure, .pure, .read, .pure, .pure, .pure, .pure, .pure, .read, .pure, .pure, .pure, .pure, .pure, .read, .any] [0, 0, 2, 6, 14, 30, 62, 126, 254, 510, 1022, 2046, 4094, 0, 8192, 24576, 57344, 131071] [0, 1, 2, 3, 4, 5, 6, 7, 8, 9, 10, 11, 12, 13, 14, 15, 16, 17] := ⟨trivial⟩
instance : DrawD 16 19 [.pure, .pure, .pure, .pure, .read, .pure, .pure, .pure, .pure, .pure, .read, .pure, .pure, .pure, .pure, .pure, .read, .any] [0, 0, 2, 6, 14, 30, 62, 126, 254, 510, 1022, 2046, 4094, 0, 8192, 24576, 57344, 131071] [0, 1, 2, 3, 4, 5, 6, 7, 8, 9, 10, 11, 12, 13, 14, 15, 16, 17] := ⟨trivial⟩
instance : DrawD 16 20 [.pure, .pure, .pure, .pure, .read, .pure, .pure, .pure, .pure, .pure, .read, .pure, .pure, .pure, .pure, .pure, .pure, .read, .pure, .pure, .pure, .read, .pure, .pure, .pure, .pure, .pure, .pure, .pure, .read, .any] [0, 0, 2, 6, 14, 30, 62, 126, 254, 510, 1022, 2046, 4094, 8190, 16382, 32766, 65534, 131070, 16382, 278526, 802814, 1851390, 3948542, 8388606, 16777214, 33554430, 0, 67108864, 201326592, 469762048, 1073741823] [0, 1, 2, 3, 4, 5, 6, 7, 8, 9, 10, 11, 12, 13, 14, 15, 16, 17, 18, 19, 20, 21, 22, 23, 24, 25, 26, 27, 28, 29, 30] := ⟨trivial⟩
instance : DrawD 16 21 [.pure, .pure, .pure, .pure, .read, .pure, .pure, .pure, .pure, .pure, .read, .pure, .pure, .pure, .pure, .pure, .read, .any] [0, 0, 2, 6, 14, 30, 62, 126, 254, 510, 1022, 2046, 4094, 0, 8192, 24576, 57344, 131071] [0, 1, 2, 3, 4, 5, 6, 7, 8, 9, 10, 11, 12, 13, 14, 15, 16, 17] := ⟨trivial⟩
instance : DrawD 16 22 [.pure, .pure, .pure, .pure, .read, .pure, .pure, .pure, .pure, .pure, .read, .pure, .pure, .pure, .pure, .pure, .pure, .pure, .pure, .pure, .read, .any] [0, 0, 2, 6, 14, 30, 62, 126, 254, 510, 1022, 126, 2174, 6270, 14462, 32766, 65534, 0, 131072, 393216, 917504, 2097151] [0, 1, 2, 3, 4, 5, 6, 7, 8, 9, 10, 11, 12, 13, 14, 15, 16, 17, 18, 19, 20, 21] := ⟨trivial⟩
instance : DrawD 16 25 [.pure, .pure, .pure, .pure, .read, .pure, .pure, .pure, .read, .pure, .pure, .pure, .pure, .pure, .read, .pure, .pure, .pure, .any] [0, 0, 2, 6, 14, 0, 32, 96, 224, 510, 1022, 0, 2048, 6144, 14336, 32766, 65535, 131071, 262143] [0, 1, 2, 3, 4, 5, 6, 7, 8, 9, 10, 11, 12, 13, 14, 15, 16, 17, 18] := ⟨trivial⟩
instance : DrawD 16 26 [.pure, .pure, .read, .pure, .pure, .pure, .read, .pure, .pure, .pure, .read, .pure, .pure, .pure, .read, .any] [0, 0, 2, 0, 8, 24, 56, 0, 128, 384, 896, 2040, 4094, 0, 8198, 32767] [0, 1, 2, 3, 4, 5, 6, 7, 8, 9, 10, 11, 12, 13, 14, 15] := ⟨trivial⟩
instance : PlanD 19 2 [.new, .pure, .read, .pure, .pure, .new, .new, .pure, .read, .pure, .pure, .new, .pure, .pure] [0, 0, 2, 0, 14, 31, 0, 0, 128, 0, 896, 2047, 4095, 8191] [1, 2, 3, 4, 7, 8, 9, 10, 0, 5, 6, 11, 12, 13] [1, 2, 3, 4, 7, 8, 9, 10] (.two 0 (.ones [] (.two 5 (.ones [6, 11, 12, 13] .nil) 6 (.ones [5, 11, 12, 13] .nil))) 6 (.ones [0, 5, 11, 12, 13] .nil)) := ⟨trivial⟩
instance : PairD 19 6 [.pure, .pure, .read, .pure, .pure, .any, .pure, .pure, .read, .pure, .pure, .any, .pure, .any, .pure, .any] [0, 0, 2, 0, 14, 31, 0, 0, 128, 0, 896, 2047, 447, 8191, 16383, 32767] [0, 1, 2, 3, 4, 6, 7, 9] 5 8 [10, 12, 11, 13, 14, 15] := ⟨trivial⟩
instance : DrawD 20 4 [.pure, .pure, .pure, .read, .pure, .pure, .pure, .pure, .read, .pure, .pure, .read, .pure, .pure, .pure, .pure, .pure] [0, 0, 0, 4, 12, 30, 62, 126, 254, 126, 1022, 2046, 126, 8190, 16382, 127, 65535] [0, 1, 2, 3, 4, 5, 6, 7, 8, 9, 10, 11, 12, 13, 14, 15, 16] := ⟨trivial⟩
instance : DrawD 27 1 [.pure, .read, .pure, .read, .pure, .read, .pure, .read, .pure, .read, .pure, .read, .gar, .pure, .read, .gar, .pure, .read, .gar, .pure, .read, .gar, .pure, .read, .pure, .read, .pure, .new, .pure] [0, 1, 0, 4, 0, 16, 0, 64, 0, 256, 0, 1024, 3072, 0, 8192, 31744, 0, 65536, 261120, 0, 524288, 2096128, 0, 4194304, 0, 16777216, 67108863, 134217727, 268435455] [0, 1, 2, 3, 4, 5, 6, 7, 8, 9, 10, 11, 13, 14, 16, 17, 19, 20, 22, 23, 24, 25, 12, 15, 18, 21, 26, 27, 28] := ⟨trivial⟩
instance : DrawD 28 3 [.pure, .pure, .pure, .read, .pure, .pure, .pure, .pure, .pure, .pure, .read, .pure] [0, 1, 3, 7, 0, 16, 63, 0, 128, 384, 896, 2047] [0, 1, 2, 3, 4, 5, 6, 7, 8, 9, 10, 11] := ⟨trivial⟩
instance : DrawD 28 6 [.pure, .pure, .pure, .read, .pure, .pure, .read, .pure, .pure, .pure, .read, .pure, .pure, .any] [0, 1, 3, 7, 15, 31, 63, 0, 128, 384, 896, 2047, 0, 8191] [0, 1, 2, 3, 4, 5, 6, 7, 8, 9, 10, 11, 12, 13] := ⟨trivial⟩
instance : DrawD 30 7 [.pure, .pure, .pure, .read, .pure, .pure, .pure, .read, .pure, .pure, .pure, .read, .pure, .pure, .pure, .read, .pure, .pure, .pure, .read, .gar, .pure, .pure, .pure, .read, .gar, .pure, .pure, .pure, .read, .gar, .pure, .pure, .pure, .read, .gar, .pure, .pure, .pure, .read, .pure, .pure, .pure, .read, .pure, .new, .pure] [0, 1, 3, 7, 0, 16, 48, 112, 0, 256, 768, 1792, 0, 4096, 12288, 28672, 0, 65536, 196608, 458752, 983040, 0, 2097152, 6291456, 14680064, 33488896, 0, 67108864, 201326592, 469762048, 1073676288, 0, 2147483648, 6442450944, 15032385536, 34359672832, 0, 68719476736, 206158430208, 481036337152, 0, 1099511627776, 3298534883328, 7696581394432, 17592186044415, 35184372088831, 70368744177663] [0, 1, 2, 3, 4, 5, 6, 7, 8, 9, 10, 11, 12, 13, 14, 15, 16, 17, 18, 19, 21, 22, 23, 24, 26, 27, 28, 29, 31, 32, 33, 34, 36, 37, 38, 39, 40, 41, 42, 43, 20, 25, 30, 35, 44, 45, 46] := ⟨trivial⟩
instance : DrawD 30 14 [.pure, .pure, .pure, .read, .pure, .pure] [0, 1, 3, 7, 0, 31] [0, 1, 2, 3, 4, 5] := ⟨trivial⟩
instance : DrawD 30 16 [.pure, .pure, .pure, .read, .pure, .any] [0, 1, 3, 7, 0, 31] [0, 1, 2, 3, 4, 5] := ⟨trivial⟩
instance : DrawD 30 18 [.pure, .pure, .pure, .pure, .read, .any] [0, 0, 2, 6, 14, 31] [0, 1, 2, 3, 4, 5] := ⟨trivial⟩
instance : DrawD 30 20 [.pure, .pure, .pure, .read, .pure, .pure, .pure, .pure, .read, .any] [0, 1, 3, 7, 15, 0, 32, 96, 224, 511] [0, 1, 2, 3, 4, 5, 6, 7, 8, 9] := ⟨trivial⟩
instance : DrawD 32 14 [.pure, .pure, .pure, .read, .pure, .pure, .pure, .read, .gar, .pure, .pure, .pure, .read, .gar, .pure, .pure, .pure, .read, .gar, .pure, .pure, .pure, .read, .gar, .pure, .pure, .pure, .read, .pure, .pure, .pure, .read, .pure, .pure, .pure, .read, .pure, .pure, .pure, .read, .new, .pure, .new, .pure] [0, 1, 3, 7, 0, 16, 48, 112, 240, 0, 512, 1536, 3584, 8176, 0, 16384, 49152, 114688, 262128, 0, 524288, 1572864, 3670016, 8388592, 0, 16777216, 50331648, 117440512, 0, 268435456, 805306368, 1879048192, 0, 4294967296, 12884901888, 30064771072, 0, 68719476736, 206158430208, 481036337152, 0, 2199023255551, 4398046511103, 8796093022207] [0, 1, 2, 3, 4, 5, 6, 7, 9, 10, 11, 12, 14, 15, 16, 17, 19, 20, 21, 22, 24, 25, 26, 27, 28, 29, 30, 31, 32, 33, 34, 35, 36, 37, 38, 39, 8, 13, 18, 23, 40, 41, 42, 43] := ⟨trivial⟩
instance : DrawD 34 84 [.pure, .pure, .pure, .read, .read, .new, .any] [0, 1, 3, 7, 0, 16, 63] [0, 1, 2, 3, 4, 5, 6] := ⟨trivial⟩
instance : DrawD 34 90 [.pure, .read, .new, .any] [0, 0, 2, 7] [0, 1, 2, 3] := ⟨trivial⟩
instance : PlanD 36 5 [.pure, .pure, .read, .pure, .read, .any, .pure, .new, .any, .pure] [0, 0, 2, 0, 8, 24, 62, 126, 255, 511] [0, 1, 2, 3, 4, 5, 6, 7, 8, 9] [0, 1, 3, 4] (.two 2 (.ones [5, 6, 7, 8, 9] .nil) 5 (.ones [2, 6, 7, 8, 9] .nil)) := ⟨trivial⟩
instance : DrawD 39 0 [.pure, .pure, .pure, .read, .pure, .pure, .pure, .read, .pure, .pure, .pure, .pure, .pure] [0, 1, 3, 7, 0, 16, 48, 112, 255, 511, 1023, 2047, 4095] [0, 1, 2, 3, 4, 5, 6, 7, 8, 9, 10, 11, 12] := ⟨trivial⟩
instance : DrawD 39 4 [.pure, .pure, .pure, .read, .pure, .pure, .pure, .read, .pure, .pure, .pure, .pure, .pure] [0, 1, 3, 7, 0, 16, 48, 112, 255, 511, 1023, 2047, 4095] [0, 1, 2, 3, 4, 5, 6, 7, 8, 9, 10, 11, 12] := ⟨trivial⟩
instance : DrawD 40 0 [.pure, .pure, .pure, .read, .pure, .pure, .pure, .read, .pure, .pure, .new, .pure] [0, 1, 3, 7, 0, 16, 48, 112, 255, 511, 1023, 2047] [0, 1, 2, 3, 4, 5, 6, 7, 8, 9, 10, 11] := ⟨trivial⟩
instance : PairD 40 1 [.pure, .pure, .new, .pure, .pure, .new, .pure, .pure] [0, 1, 3, 0, 8, 24, 7, 127] [0, 1, 3, 4] 2 5 [6, 7] := ⟨trivial⟩
instance : DrawD 40 24 [.pure, .pure, .pure, .read, .pure, .read, .pure, .pure, .read, .any] [0, 0, 0, 4, 14, 30, 62, 0, 128, 511] [0, 1, 2, 3, 4, 5, 6, 7, 8, 9] := ⟨trivial⟩
instance : PairD 40 26 [.pure, .pure, .read, .pure, .pure, .read, .pure, .pure, .any, .pure, .any] [0, 0, 2, 0, 0, 16, 0, 7, 135, 511, 1023] [0, 1, 2, 3, 4, 6, 7] 5 8 [9, 10] := ⟨trivial⟩
instance : DrawD 40 29 [.pure, .pure, .pure, .pure, .read, .read, .new, .any, .pure, .pure, .any] [0, 0, 2, 6, 14, 0, 32, 126, 255, 511, 1023] [0, 1, 2, 3, 4, 5, 6, 7, 8, 9, 10] := ⟨trivial⟩
instance : PairD 41 0 [.pure, .pure, .pure, .read, .pure, .pure, .pure, .read, .pure, .pure, .new, .pure, .pure, .pure, .read, .new, .pure, .pure] [0, 1, 3, 7, 0, 16, 48, 112, 255, 511, 1023, 0, 2048, 6144, 14336, 30720, 2047, 131071] [0, 1, 2, 3, 4, 5, 6, 7, 8, 9, 11, 12, 13, 14] 10 15 [16, 17] := ⟨trivial⟩
instance : DrawD 41 10 [.pure, .pure, .read, .pure, .pure, .pure, .pure, .read, .pure, .pure, .read, .pure, .pure, .any] [0, 0, 2, 6, 0, 16, 48, 112, 254, 511, 1023, 2047, 4095, 8191] [0, 1, 2, 3, 4, 5, 6, 7, 8, 9, 10, 11, 12, 13] := ⟨trivial⟩
instance : DrawD 41 29 [.pure, .pure, .pure, .read, .pure, .pure, .pure, .read, .pure, .pure, .any] [0, 0, 0, 6, 0, 0, 48, 112, 254, 0, 1023] [0, 1, 2, 3, 4, 5, 6, 7, 8, 9, 10] := ⟨trivial⟩
instance : DrawD 41 35 [.pure, .pure, .pure, .read, .pure, .pure, .pure, .read, .pure, .pure, .any] [0, 0, 0, 6, 0, 0, 48, 112, 254, 0, 1023] [0, 1, 2, 3, 4, 5, 6, 7, 8, 9, 10] := ⟨trivial⟩
instance : DrawD 43 7 [.pure, .pure, .pure, .read, .pure, .pure, .pure, .read, .pure] [0, 1, 3, 7, 0, 16, 48, 112, 255] [0, 1, 2, 3, 4, 5, 6, 7, 8] := ⟨trivial⟩
instance : DrawD 47 52 [.pure, .pure, .pure, .read, .pure, .pure, .pure, .read, .any] [0, 1, 3, 7, 0, 16, 48, 112, 255] [0, 1, 2, 3, 4, 5, 6, 7, 8] := ⟨trivial⟩
instance : DrawD 47 74 [.pure, .pure, .pure, .pure, .pure, .pure, .read, .pure, .pure, .pure, .pure, .read, .pure, .pure] [0, 1, 3, 7, 7, 31, 63, 7, 7, 263, 903, 1927, 4095, 8191] [0, 1, 2, 3, 4, 5, 6, 7, 8, 9, 10, 11, 12, 13] := ⟨trivial⟩
instance : DrawD 47 76 [.pure, .pure, .pure, .pure, .pure, .pure, .pure, .pure, .pure, .read, .pure, .pure, .pure, .read, .pure, .any, .pure, .any] [0, 0, 0, 0, 8, 0, 0, 64, 224, 480, 0, 0, 3072, 7168, 16355, 32739, 65535, 131071] [0, 1, 2, 3, 4, 5, 6, 7, 8, 9, 10, 11, 12, 13, 14, 15, 16, 17] := ⟨trivial⟩
instance : DrawD 47 95 [.pure, .pure, .pure, .read, .pure, .pure, .pure, .pure, .pure, .read, .pure, .pure] [0, 1, 3, 7, 15, 31, 0, 64, 192, 448, 960, 2047] [0, 1, 2, 3, 4, 5, 6, 7, 8, 9, 10, 11] := ⟨trivial⟩
instance : DrawD 50 2 [.pure, .pure, .pure, .read, .pure, .pure] [0, 1, 3, 7, 0, 31] [0, 1, 2, 3, 4, 5] := ⟨trivial⟩
instance : DrawD 50 3 [.pure, .pure, .pure, .read, .pure, .pure, .pure, .pure, .pure, .pure, .read, .pure] [0, 1, 3, 7, 0, 16, 63, 0, 128, 384, 896, 2047] [0, 1, 2, 3, 4, 5, 6, 7, 8, 9, 10, 11] := ⟨trivial⟩
instance : DrawD 50 5 [.pure, .pure, .pure, .read, .pure, .pure] [0, 1, 3, 7, 0, 31] [0, 1, 2, 3, 4, 5] := ⟨trivial⟩
instance : DrawD 53 2 [.pure, .pure, .pure, .read, .pure, .pure, .pure, .read, .pure, .pure, .any] [0, 1, 3, 7, 0, 16, 48, 112, 255, 511, 1023] [0, 1, 2, 3, 4, 5, 6, 7, 8, 9, 10] := ⟨trivial⟩
instance : DrawD 54 0 [.pure, .pure, .pure, .read, .pure, .pure, .pure, .read, .pure, .pure] [0, 1, 3, 7, 0, 16, 48, 112, 240, 511] [0, 1, 2, 3, 4, 5, 6, 7, 8, 9] := ⟨trivial⟩
instance : DrawD 54 1 [.pure, .pure, .pure, .pure, .read, .pure, .pure, .pure, .read, .pure, .any] [0, 0, 2, 6, 14, 0, 32, 96, 224, 510, 1023] [0, 1, 2, 3, 4, 5, 6, 7, 8, 9, 10] := ⟨trivial⟩
instance : DrawD 55 7 [.pure, .pure, .pure, .pure, .pure, .read, .pure, .pure, .pure, .pure, .pure, .pure, .pure, .pure, .new, .any] [0, 0, 0, 4, 14, 30, 0, 0, 0, 256, 0, 1792, 4032, 8191, 0, 32767] [0, 1, 2, 3, 4, 5, 6, 7, 8, 9, 10, 11, 12, 13, 14, 15] := ⟨trivial⟩
instance : PairD 55 8 [.pure, .pure, .pure, .read, .any, .pure, .read, .any] [0, 0, 0, 4, 14, 0, 32, 127] [0, 1, 2, 3, 5] 4 6 [7] := ⟨trivial⟩
instance : DrawD 58 10 [.pure, .pure, .pure, .pure, .pure, .pure, .pure, .read, .pure, .pure, .pure, .pure, .pure, .read, .pure, .pure] [0, 1, 3, 7, 7, 31, 63, 127, 7, 7, 519, 1799, 3847, 7943, 16383, 32767] [0, 1, 2, 3, 4, 5, 6, 7, 8, 9, 10, 11, 12, 13, 14, 15] := ⟨trivial⟩
instance : DrawD 58 12 [.pure, .pure, .pure, .pure, .pure, .pure, .pure, .pure, .pure, .read, .pure, .pure, .pure, .read, .pure, .any, .pure, .any] [0, 0, 0, 0, 8, 0, 0, 64, 224, 480, 0, 0, 3072, 7168, 16355, 32739, 65535, 131071] [0, 1, 2, 3, 4, 5, 6, 7, 8, 9, 10, 11, 12, 13, 14, 15, 16, 17] := ⟨trivial⟩
instance : DrawD 60 2 [.pure, .pure, .pure, .pure, .pure, .pure, .pure, .pure, .pure, .pure] [0, 0, 2, 7, 0, 0, 32, 112, 15, 511] [0, 1, 2, 3, 4, 5, 6, 7, 8, 9] := ⟨trivial⟩
instance : DrawD 62 3 [.pure, .pure, .pure, .pure, .pure, .pure, .pure, .pure, .pure] [0, 0, 3, 0, 0, 16, 56, 7, 255] [0, 1, 2, 3, 4, 5, 6, 7, 8] := ⟨trivial⟩
instance : PairD 64 16 [.read, .pure, .read, .pure, .pure, .read, .pure, .pure, .pure, .read, .read, .pure, .pure, .read, .pure, .any, .pure, .any] [0, 0, 0, 0, 8, 0, 0, 64, 224, 480, 0, 0, 3072, 7168, 16355, 32739, 65535, 131071] [0, 1, 3, 4, 5, 6, 7, 8, 9, 10, 11, 12, 13, 14] 2 15 [16, 17] := ⟨trivial⟩
instance : DrawD 66 6 [.pure, .pure, .pure, .read, .pure, .pure, .pure, .read, .pure, .pure, .pure, .pure, .pure, .read, .pure, .pure, .pure, .pure, .pure, .read, .pure, .pure, .pure, .pure, .pure, .read, .pure, .pure, .pure, .pure, .pure, .read, .pure, .pure, .pure, .pure, .read, .pure, .pure, .pure, .read, .pure, .pure, .pure, .read, .pure, .pure, .pure, .read, .pure, .pure, .pure, .pure, .pure, .read, .pure, .pure, .pure, .pure, .pure, .read, .pure, .pure, .pure, .pure, .read, .pure, .pure, .pure, .pure, .pure, .read, .pure, .pure, .pure, .pure, .read, .pure, .pure, .pure, .pure, .pure, .read, .pure, .pure, .pure, .pure, .read, .pure, .pure, .pure, .pure, .pure, .read, .pure, .pure, .pure, .pure, .read, .pure, .pure, .pure, .new, .any] [0, 1, 3, 7, 0, 16, 48, 112, 240, 496, 0, 1024, 3072, 7168, 15360, 31744, 0, 65536, 196608, 458752, 983040, 2031616, 0, 4194304, 12582912, 29360128, 62914560, 130023424, 0, 268435456, 805306368, 1879048192, 4026531840, 0, 8589934592, 25769803776, 60129542144, 0, 137438953472, 412316860416, 962072674304, 0, 2199023255552, 6597069766656, 15393162788864, 0, 35184372088832, 105553116266496, 246290604621824, 527765581332480, 1090715534753792, 0, 2251799813685248, 6755399441055744, 15762598695796736, 33776997205278720, 69805794224242688, 0, 144115188075855872, 432345564227567616, 1008806316530991104, 2161727821137838080, 0, 4611686018427387904, 13835058055282163712, 32281802128991715328, 69175290276410818560, 142962266571249025024, 0, 295147905179352825856, 885443715538058477568, 2066035336255469780992, 4427218577690292387840, 0, 9444732965739290427392, 28334198897217871282176, 66113130760175032991744, 141670994486089356410880, 292786721937918003249152, 0, 604462909807314587353088, 1813388729421943762059264, 4231240368651202111471616, 9066943647109718810296320, 0, 19342813113834066795298816, 58028439341502200385896448, 135399691796838467567091712, 290142196707511001929482240, 599627206528856070654263296, 0, 1237940039285380274899124224, 3713820117856140824697372672, 8665580274997661924293869568, 18569100589280704123486863360, 0, 39614081257132168796771975168, 118842243771396506390315925504, 277298568799925181577403826176, 594211218856982531951579627520, 1228036518971097232699931230208, 2535301200456458802993406410751, 0, 10141204801825835211973625643007] [0, 1, 2, 3, 4, 5, 6, 7, 8, 9, 10, 11, 12, 13, 14, 15, 16, 17, 18, 19, 20, 21, 22, 23, 24, 25, 26, 27, 28, 29, 30, 31, 32, 33, 34, 35, 36, 37, 38, 39, 40, 41, 42, 43, 44, 45, 46, 47, 48, 49, 50, 51, 52, 53, 54, 55, 56, 57, 58, 59, 60, 61, 62, 63, 64, 65, 66, 67, 68, 69, 70, 71, 72, 73, 74, 75, 76, 77, 78, 79, 80, 81, 82, 83, 84, 85, 86, 87, 88, 89, 90, 91, 92, 93, 94, 95, 96, 97, 98, 99, 100, 101, 102, 103] := ⟨trivial⟩
instance : DrawD 66 11 [.pure, .pure, .pure, .pure, .pure, .read, .any, .pure] [0, 1, 0, 4, 12, 28, 63, 127] [0, 1, 2, 3, 4, 5, 6, 7] := ⟨trivial⟩
instance : DrawD 66 14 [.pure, .pure, .pure, .pure, .read, .pure, .any] [0, 0, 2, 6, 14, 30, 63] [0, 1, 2, 3, 4, 5, 6] := ⟨trivial⟩
instance : DrawD 66 17 [.pure, .pure, .pure, .read, .pure, .pure, .pure, .pure, .read, .pure, .pure, .pure, .pure, .pure, .read, .pure, .pure, .pure, .pure] [0, 1, 3, 7, 15, 0, 32, 96, 224, 480, 1023, 0, 2048, 6144, 14336, 30720, 63488, 131071, 262143] [0, 1, 2, 3, 4, 5, 6, 7, 8, 9, 10, 11, 12, 13, 14, 15, 16, 17, 18] := ⟨trivial⟩
instance : DrawD 68 2 [.pure, .pure, .pure, .read, .pure, .pure] [0, 1, 3, 7, 0, 31] [0, 1, 2, 3, 4, 5] := ⟨trivial⟩
instance : DrawD 68 3 [.pure, .pure, .pure, .read, .pure, .pure, .pure, .pure, .pure, .read, .pure] [0, 1, 3, 7, 0, 31, 0, 64, 192, 448, 1023] [0, 1, 2, 3, 4, 5, 6, 7, 8, 9, 10] := ⟨trivial⟩
instance : DrawD 68 5 [.pure, .pure, .pure, .read, .pure, .pure] [0, 1, 3, 7, 0, 31] [0, 1, 2, 3, 4, 5] := ⟨trivial⟩
instance : DrawD 68 6 [.pure, .pure, .pure, .read, .pure, .new, .any] [0, 1, 3, 7, 0, 16, 63] [0, 1, 2, 3, 4, 5, 6] := ⟨trivial⟩
instance : DrawD 69 2 [.pure, .pure, .pure, .pure, .read, .pure, .pure, .pure, .pure, .read, .pure, .pure, .any, .pure, .pure, .any] [0, 0, 2, 6, 14, 0, 0, 64, 192, 448, 960, 2016, 4094, 8191, 16383, 32767] [0, 1, 2, 3, 4, 5, 6, 7, 8, 9, 10, 11, 12, 13, 14, 15] := ⟨trivial⟩
instance : DrawD 69 3 [.pure, .pure, .pure, .read, .pure, .pure, .pure, .read, .pure, .pure, .any] [0, 1, 3, 7, 0, 16, 48, 112, 255, 0, 1023] [0, 1, 2, 3, 4, 5, 6, 7, 8, 9, 10] := ⟨trivial⟩
instance : PlanD 72 1 [.pure, .pure, .pure, .pure, .read, .pure, .pure, .pure, .any, .pure, .new, .any, .pure, .pure, .any] [0, 0, 2, 6, 14, 0, 32, 0, 128, 480, 992, 2046, 4095, 8191, 16383] [0, 1, 2, 3, 4, 5, 6, 7, 8, 9, 10, 11, 12, 13, 14] [0, 1, 2, 3, 5, 6, 7] (.two 4 (.ones [8, 9, 10, 11, 12, 13, 14] .nil) 8 (.ones [4, 9, 10, 11, 12, 13, 14] .nil)) := ⟨trivial⟩
instance : DrawD 78 5 [.pure, .read, .pure, .pure, .pure, .pure, .read, .pure, .pure, .read, .pure, .pure, .pure, .pure, .any] [0, 0, 2, 0, 8, 24, 56, 126, 254, 510, 1022, 2046, 4094, 0, 16383] [0, 1, 2, 3, 4, 5, 6, 7, 8, 9, 10, 11, 12, 13, 14] := ⟨trivial⟩
instance : DrawD 78 7 [.pure, .read, .read, .pure, .read, .read, .read, .read, .pure, .pure, .pure, .read, .read, .read, .read, .pure, .pure, .pure, .read, .read, .read, .read, .pure, .pure, .read, .read, .read, .read, .read, .read, .pure, .pure, .read, .read, .read, .read, .pure, .read, .gar, .read, .read, .pure, .read, .gar, .read, .read, .pure, .read, .gar, .pure, .read, .pure, .read, .gar, .pure, .new, .any] [0, 0, 2, 6, 0, 22, 0, 118, 246, 502, 1014, 0, 2294, 0, 14582, 30966, 63734, 129270, 0, 293110, 0, 1865974, 3963126, 8157430, 0, 20740342, 0, 121403638, 0, 524056822, 1060927734, 2134669558, 0, 5355895030, 0, 31125698806, 0, 134204913910, 271643867382, 0, 1096277588214, 0, 4394812471542, 8792858982646, 0, 35181138049270, 0, 140734254315766, 281471742671094, 0, 1125896672803062, 0, 4503596393330934, 9007196020701430, 18014398509481983, 0, 72057594037927935] [0, 1, 2, 3, 4, 5, 6, 7, 8, 9, 10, 11, 12, 13, 14, 15, 16, 17, 18, 19, 20, 21, 22, 23, 24, 25, 26, 27, 28, 29, 30, 31, 32, 33, 34, 35, 36, 37, 39, 41, 44, 46, 49, 51, 38, 40, 42, 43, 45, 47, 48, 50, 52, 53, 54, 55, 56] := ⟨trivial⟩
instance : DrawD 79 4 [.pure, .pure, .pure, .pure, .read, .pure, .pure, .read, .pure, .new, .pure, .pure, .any] [0, 0, 2, 6, 14, 30, 0, 64, 192, 510, 1023, 2047, 4095] [0, 1, 2, 3, 4, 5, 6, 7, 8, 9, 10, 11, 12] := ⟨trivial⟩
instance : DrawD 79 14 [.pure, .pure, .pure, .pure, .read, .pure, .pure, .read, .pure, .pure, .pure, .read, .pure, .pure, .pure, .pure, .pure, .read, .pure, .pure, .read, .pure, .pure, .pure, .pure, .pure, .read, .any] [0, 0, 2, 6, 14, 30, 62, 126, 0, 256, 768, 1792, 4094, 8190, 16382, 32766, 65534, 131070, 262142, 524286, 1048574, 2097150, 4194302, 0, 8388608, 25165824, 58720256, 134217727] [0, 1, 2, 3, 4, 5, 6, 7, 8, 9, 10, 11, 12, 13, 14, 15, 16, 17, 18, 19, 20, 21, 22, 23, 24, 25, 26, 27] := ⟨trivial⟩
instance : DrawD 79 15 [.pure, .pure, .pure, .pure, .read, .pure, .pure, .read, .pure, .pure, .pure, .pure, .pure, .pure, .read, .pure, .pure, .read, .pure, .pure, .pure, .pure, .pure, .read, .any] [0, 0, 2, 6, 14, 30, 62, 126, 0, 510, 1022, 2046, 4094, 8190, 16382, 32766, 65534, 131070, 262142, 524286, 0, 1048576, 3145728, 7340032, 16777215] [0, 1, 2, 3, 4, 5, 6, 7, 8, 9, 10, 11, 12, 13, 14, 15, 16, 17, 18, 19, 20, 21, 22, 23, 24] := ⟨trivial⟩
instance : DrawD 79 22 [.pure, .pure, .read, .pure, .read, .pure, .pure, .pure, .pure, .read, .any] [0, 0, 2, 0, 8, 30, 0, 64, 192, 448, 1023] [0, 1, 2, 3, 4, 5, 6, 7, 8, 9, 10] := ⟨trivial⟩
instance : DrawD 79 27 [.pure, .pure, .read, .pure, .pure, .pure, .pure, .pure, .pure, .read, .any] [0, 0, 2, 0, 14, 30, 0, 64, 192, 448, 1023] [0, 1, 2, 3, 4, 5, 6, 7, 8, 9, 10] := ⟨trivial⟩
instance : DrawD 80 1 [.pure, .pure, .pure, .pure, .pure, .pure, .pure, .read, .pure, .pure, .pure, .read, .pure, .pure, .pure] [0, 1, 3, 7, 7, 23, 55, 119, 7, 263, 775, 1799, 4087, 8191, 16383] [0, 1, 2, 3, 4, 5, 6, 7, 8, 9, 10, 11, 12, 13, 14] := ⟨trivial⟩
instance : DrawD 80 4 [.pure, .pure, .pure, .pure, .pure, .read, .pure, .pure, .pure, .pure, .pure, .pure, .read, .pure, .pure, .pure] [0, 1, 0, 4, 12, 28, 63, 0, 128, 0, 512, 1536, 3584, 8064, 127, 32767] [0, 1, 2, 3, 4, 5, 6, 7, 8, 9, 10, 11, 12, 13, 14, 15] := ⟨trivial⟩
instance : DrawD 80 5 [.pure, .pure, .read, .pure, .pure, .pure, .pure, .pure, .read, .pure, .pure, .pure] [0, 0, 3, 7, 0, 0, 32, 96, 224, 496, 1023, 2047] [0, 1, 2, 3, 4, 5, 6, 7, 8, 9, 10, 11] := ⟨trivial⟩
instance : DrawD 80 6 [.pure, .pure, .pure, .pure, .read, .pure, .pure, .pure, .pure, .read, .pure, .pure, .pure] [0, 0, 2, 6, 14, 31, 0, 64, 192, 448, 960, 1984, 4095] [0, 1, 2, 3, 4, 5, 6, 7, 8, 9, 10, 11, 12] := ⟨trivial⟩
instance : DrawD 80 9 [.pure, .pure, .pure, .read, .pure, .pure, .pure, .pure, .pure, .read, .pure, .pure, .pure] [0, 1, 3, 7, 0, 0, 0, 64, 192, 448, 992, 2047, 4095] [0, 1, 2, 3, 4, 5, 6, 7, 8, 9, 10, 11, 12] := ⟨trivial⟩
instance : DrawD 84 4 [.pure, .pure, .pure, .pure, .read, .pure, .pure, .pure, .read, .pure, .pure, .pure, .any, .pure, .pure, .any] [0, 0, 2, 6, 14, 0, 32, 96, 224, 480, 992, 2016, 4094, 8191, 16383, 32767] [0, 1, 2, 3, 4, 5, 6, 7, 8, 9, 10, 11, 12, 13, 14, 15] := ⟨trivial⟩
instance : DrawD 85 1 [.pure, .pure, .pure, .read, .pure, .pure, .pure, .read, .pure, .pure] [0, 1, 3, 7, 0, 16, 48, 112, 255, 511] [0, 1, 2, 3, 4, 5, 6, 7, 8, 9] := ⟨trivial⟩
instance : DrawD 89 5 [.pure, .pure, .pure, .pure, .read, .read, .new, .any, .pure, .pure, .any] [0, 0, 2, 6, 14, 0, 32, 126, 255, 511, 1023] [0, 1, 2, 3, 4, 5, 6, 7, 8, 9, 10] := ⟨trivial⟩
instance : DrawD 89 8 [.pure, .pure, .pure, .pure, .read, .read, .new, .any, .pure, .pure, .any] [0, 0, 2, 6, 14, 0, 32, 126, 255, 511, 1023] [0, 1, 2, 3, 4, 5, 6, 7, 8, 9, 10] := ⟨trivial⟩
instance : DrawD 90 4 [.read, .pure, .pure, .read, .pure, .pure, .pure, .read, .pure, .any] [0, 1, 3, 7, 0, 16, 48, 112, 240, 511] [0, 1, 2, 3, 4, 5, 6, 7, 8, 9] := ⟨trivial⟩
instance : DrawD 90 13 [.read, .pure, .pure, .read, .pure, .read, .pure, .pure, .read, .pure, .pure, .read, .pure, .pure, .read, .pure, .pure, .pure, .read, .read, .pure, .pure, .read, .pure, .pure, .read, .pure, .any, .pure, .any] [0, 1, 3, 7, 0, 0, 32, 96, 224, 0, 512, 0, 2048, 6144, 14336, 0, 32768, 129024, 260096, 0, 524288, 1572864, 3670016, 0, 16252928, 33030144, 67107327, 134216191, 268435455, 536870911] [0, 1, 2, 3, 4, 5, 6, 7, 8, 9, 10, 11, 12, 13, 14, 15, 16, 17, 18, 19, 20, 21, 22, 23, 24, 25, 26, 27, 28, 29] := ⟨trivial⟩
instance : DrawD 90 18 [.read, .pure, .pure, .read, .pure, .any] [0, 1, 3, 7, 0, 31] [0, 1, 2, 3, 4, 5] := ⟨trivial⟩
instance : DrawD 91 1 [.pure, .pure, .read, .pure, .pure, .pure, .read, .pure, .pure, .pure, .pure] [0, 1, 3, 7, 0, 16, 48, 112, 240, 511, 1023] [0, 1, 2, 3, 4, 5, 6, 7, 8, 9, 10] := ⟨trivial⟩
instance : DrawD 92 1 [.pure, .pure, .read, .pure, .pure, .pure, .read, .pure, .pure, .pure, .pure, .pure, .read, .pure, .pure, .pure, .pure, .pure, .read, .pure, .pure, .pure, .pure] [0, 1, 3, 7, 0, 16, 48, 112, 240, 511, 0, 1024, 3072, 7168, 15360, 32767, 0, 65536, 196608, 458752, 983040, 2097151, 4194303] [0, 1, 2, 3, 4, 5, 6, 7, 8, 9, 10, 11, 12, 13, 14, 15, 16, 17, 18, 19, 20, 21, 22] := ⟨trivial⟩
instance : DrawD 95 1 [.pure, .pure, .pure, .read, .pure, .pure, .pure, .read, .pure, .pure, .pure, .pure, .pure, .pure, .read, .pure, .pure, .pure, .read, .pure, .pure, .pure, .pure] [0, 1, 3, 7, 0, 16, 48, 112, 240, 511, 1023, 2047, 4095, 8191, 16383, 2047, 34815, 100351, 231423, 524287, 2047, 2097151, 4194303] [0, 1, 2, 3, 4, 5, 6, 7, 8, 9, 10, 11, 12, 13, 14, 15, 16, 17, 18, 19, 20, 21, 22] := ⟨trivial⟩
instance : DrawD 95 4 [.pure, .pure, .pure, .read, .pure, .pure, .pure, .read, .pure, .pure, .pure, .read, .pure, .any] [0, 1, 3, 7, 0, 16, 48, 112, 0, 256, 768, 1792, 4080, 8191] [0, 1, 2, 3, 4, 5, 6, 7, 8, 9, 10, 11, 12, 13] := ⟨trivial⟩
instance : DrawD 95 5 [.pure, .pure, .pure, .read, .pure, .pure, .pure, .read, .pure, .pure, .any] [0, 1, 3, 7, 0, 16, 48, 112, 0, 511, 1023] [0, 1, 2, 3, 4, 5, 6, 7, 8, 9, 10] := ⟨trivial⟩
instance : DrawD 97 2 [.pure, .pure, .pure, .read, .pure, .pure, .pure, .read, .pure, .pure] [0, 1, 3, 7, 0, 16, 48, 112, 255, 511] [0, 1, 2, 3, 4, 5, 6, 7, 8, 9] := ⟨trivial⟩
instance : DrawD 97 3 [.pure, .pure, .pure, .read, .pure, .pure, .pure, .read, .pure, .read, .pure] [0, 1, 3, 7, 0, 16, 48, 112, 255, 511, 1023] [0, 1, 2, 3, 4, 5, 6, 7, 8, 9, 10] := ⟨trivial⟩
instance : PairD 100 26 [.read, .pure, .read, .pure, .pure, .read, .pure, .pure, .pure, .read, .read, .pure, .pure, .read, .pure, .any, .pure, .any] [0, 0, 0, 0, 8, 0, 0, 64, 224, 480, 0, 0, 3072, 7168, 16355, 32739, 65535, 131071] [0, 1, 3, 4, 5, 6, 7, 8, 9, 10, 11, 12, 13, 14] 2 15 [16, 17] := ⟨trivial⟩
instance : DrawD 100 38 [.read, .pure, .pure, .read, .read, .pure, .pure, .read, .pure, .pure, .any] [0, 1, 3, 7, 0, 16, 48, 112, 255, 511, 1023] [0, 1, 2, 3, 4, 5, 6, 7, 8, 9, 10] := ⟨trivial⟩
instance : DrawD 100 39 [.read, .read, .pure, .pure, .read, .pure, .pure, .any] [0, 0, 2, 6, 14, 31, 63, 127] [0, 1, 2, 3, 4, 5, 6, 7] := ⟨trivial⟩
instance : DrawD 101 1 [.read, .pure, .pure, .read, .read, .pure, .pure, .read, .read, .pure, .pure, .read, .pure] [0, 1, 3, 7, 0, 0, 48, 112, 255, 511, 1023, 2047, 4095] [0, 1, 2, 3, 4, 5, 6, 7, 8, 9, 10, 11, 12] := ⟨trivial⟩
instance : DrawD 101 2 [.read, .pure, .pure, .read, .read, .pure, .pure, .read, .read, .pure, .pure, .read, .pure] [0, 1, 3, 7, 0, 0, 48, 112, 255, 511, 1023, 2047, 4095] [0, 1, 2, 3, 4, 5, 6, 7, 8, 9, 10, 11, 12] := ⟨trivial⟩
instance : DrawD 101 4 [.read, .pure, .pure, .read, .read, .pure, .pure, .read, .pure, .pure] [0, 0, 3, 7, 0, 0, 48, 112, 255, 511] [0, 1, 2, 3, 4, 5, 6, 7, 8, 9] := ⟨trivial⟩
instance : DrawD 103 11 [.pure, .pure, .pure, .read, .pure, .pure, .any] [0, 1, 0, 4, 12, 28, 63] [0, 1, 2, 3, 4, 5, 6] := ⟨trivial⟩
instance : DrawD 103 12 [.pure, .pure, .pure, .read, .pure, .read, .any, .any] [0, 1, 0, 4, 0, 16, 60, 127] [0, 1, 2, 3, 4, 5, 6, 7] := ⟨trivial⟩
instance : DrawD 103 13 [.pure, .pure, .pure, .read, .any] [0, 1, 0, 4, 15] [0, 1, 2, 3, 4] := ⟨trivial⟩
instance : DrawD 103 15 [.pure, .pure, .pure, .pure, .pure, .pure, .pure, .read, .any] [0, 0, 2, 0, 14, 31, 0, 64, 255] [0, 1, 2, 3, 4, 5, 6, 7, 8] := ⟨trivial⟩
instance : PlanD 109 3 [.pure, .pure, .any, .pure, .pure, .pure, .pure, .new, .read, .pure, .pure] [0, 1, 3, 0, 8, 24, 56, 120, 248, 511, 1023] [0, 1, 3, 4, 5, 6, 2, 7, 8, 9, 10] [0, 1, 3, 4, 5, 6] (.two 2 (.ones [7, 8, 9, 10] .nil) 7 (.ones [] (.two 2 (.ones [8, 9, 10] .nil) 8 (.ones [2, 9, 10] .nil)))) := ⟨trivial⟩
instance : DrawD 112 12 [.pure, .pure, .read, .pure, .pure, .pure, .pure, .read, .any] [0, 0, 2, 6, 0, 16, 48, 112, 255] [0, 1, 2, 3, 4, 5, 6, 7, 8] := ⟨trivial⟩
instance : DrawD 112 13 [.pure, .pure, .read, .pure, .pure, .pure, .read, .pure, .pure, .pure, .pure, .pure, .read, .any] [0, 0, 2, 6, 14, 30, 62, 126, 254, 0, 512, 1536, 3584, 8191] [0, 1, 2, 3, 4, 5, 6, 7, 8, 9, 10, 11, 12, 13] := ⟨trivial⟩
instance : DrawD 112 21 [.pure, .pure, .pure, .pure, .pure, .read, .pure, .pure, .pure, .pure, .read, .pure, .pure, .pure, .pure, .read, .any] [0, 0, 0, 6, 14, 30, 0, 0, 192, 448, 960, 2046, 0, 4096, 12288, 28672, 65535] [0, 1, 2, 3, 4, 5, 6, 7, 8, 9, 10, 11, 12, 13, 14, 15, 16] := ⟨trivial⟩
instance : DrawD 113 8 [.pure, .pure, .pure, .pure, .read, .pure, .pure, .pure, .pure, .pure, .read, .pure, .pure, .pure, .pure, .pure, .pure, .read, .any] [0, 0, 2, 6, 14, 30, 62, 126, 254, 510, 1022, 2046, 4094, 8190, 0, 16384, 49152, 114688, 262143] [0, 1, 2, 3, 4, 5, 6, 7, 8, 9, 10, 11, 12, 13, 14, 15, 16, 17, 18] := ⟨trivial⟩
instance : DrawD 113 11 [.pure, .pure, .pure, .pure, .read, .pure, .pure, .pure, .pure, .pure, .read, .pure, .pure, .pure, .pure, .pure, .pure, .read, .any] [0, 0, 2, 6, 14, 30, 62, 126, 254, 510, 1022, 2046, 4094, 8190, 0, 16384, 49152, 114688, 262143] [0, 1, 2, 3, 4, 5, 6, 7, 8, 9, 10, 11, 12, 13, 14, 15, 16, 17, 18] := ⟨trivial⟩
instance : DrawD 113 12 [.pure, .pure, .pure, .pure, .read, .pure, .pure, .pure, .read, .pure, .pure, .pure, .pure, .pure, .pure, .read, .any] [0, 0, 2, 6, 14, 0, 32, 96, 224, 480, 992, 2046, 0, 4096, 12288, 28672, 65535] [0, 1, 2, 3, 4, 5, 6, 7, 8, 9, 10, 11, 12, 13, 14, 15, 16] := ⟨trivial⟩
instance : DrawD 113 13 [.pure, .pure, .pure, .read, .pure, .pure, .pure, .read, .pure, .pure, .pure] [0, 1, 3, 7, 0, 16, 48, 112, 240, 496, 1023] [0, 1, 2, 3, 4, 5, 6, 7, 8, 9, 10] := ⟨trivial⟩
instance : DrawD 113 14 [.pure, .pure, .pure, .pure, .read, .pure, .pure, .pure, .pure, .read, .any] [0, 0, 2, 6, 14, 30, 0, 64, 192, 448, 1023] [0, 1, 2, 3, 4, 5, 6, 7, 8, 9, 10] := ⟨trivial⟩
instance : DrawD 113 17 [.pure, .pure, .pure, .pure, .read, .pure, .pure, .pure, .read, .pure, .pure, .pure, .pure, .pure, .pure, .read, .any] [0, 0, 2, 6, 14, 0, 32, 96, 224, 480, 992, 2046, 0, 4096, 12288, 28672, 65535] [0, 1, 2, 3, 4, 5, 6, 7, 8, 9, 10, 11, 12, 13, 14, 15, 16] := ⟨trivial⟩
instance : DrawD 113 18 [.pure, .pure, .pure, .pure, .read, .pure, .pure, .pure, .read, .pure, .pure, .pure, .read, .pure, .pure, .pure, .pure, .pure, .pure, .any] [0, 0, 2, 6, 14, 0, 32, 96, 224, 0, 512, 1536, 3584, 7680, 15872, 32736, 65534, 131071, 262143, 524287] [0, 1, 2, 3, 4, 5, 6, 7, 8, 9, 10, 11, 12, 13, 14, 15, 16, 17, 18, 19] := ⟨trivial⟩
instance : DrawD 113 23 [.pure, .read, .pure, .pure, .pure, .read, .pure, .pure, .pure, .pure, .pure, .pure, .pure, .read, .any] [0, 0, 0, 4, 12, 28, 60, 124, 252, 510, 0, 1024, 3072, 7168, 16383] [0, 1, 2, 3, 4, 5, 6, 7, 8, 9, 10, 11, 12, 13, 14] := ⟨trivial⟩
instance : DrawD 113 25 [.pure, .pure, .pure, .pure, .read, .pure, .pure, .pure, .pure, .read, .any] [0, 0, 2, 6, 14, 30, 0, 64, 192, 448, 1023] [0, 1, 2, 3, 4, 5, 6, 7, 8, 9, 10] := ⟨trivial⟩
instance : DrawD 114 7 [.pure, .pure, .pure, .pure, .read, .pure, .pure, .pure, .pure, .read, .pure, .pure, .pure, .new, .any, .pure, .pure, .any] [0, 0, 2, 6, 14, 0, 0, 64, 224, 480, 0, 0, 4064, 8160, 16382, 32767, 65535, 131071] [0, 1, 2, 3, 4, 5, 6, 7, 8, 9, 10, 11, 12, 13, 14, 15, 16, 17] := ⟨trivial⟩
instance : DrawD 115 2 [.pure, .pure, .pure, .pure, .read, .pure, .pure, .pure, .pure, .read, .pure, .pure, .pure] [0, 0, 2, 6, 14, 31, 0, 64, 192, 448, 960, 1984, 4095] [0, 1, 2, 3, 4, 5, 6, 7, 8, 9, 10, 11, 12] := ⟨trivial⟩
instance : DrawD 115 5 [.pure, .pure, .pure, .read, .pure, .pure, .pure, .pure, .pure, .read, .pure, .pure, .pure] [0, 1, 3, 7, 0, 0, 0, 64, 192, 448, 992, 2047, 4095] [0, 1, 2, 3, 4, 5, 6, 7, 8, 9, 10, 11, 12] := ⟨trivial⟩
instance : DrawD 121 5 [.pure, .read, .pure, .pure, .read, .pure, .pure, .pure, .pure] [0, 1, 0, 0, 8, 24, 60, 3, 255] [0, 1, 2, 3, 4, 5, 6, 7, 8] := ⟨trivial⟩
instance : DrawD 123 1 [.read, .pure, .pure, .read, .pure, .pure, .pure, .read, .read, .pure, .pure, .read, .pure, .pure, .pure, .read, .pure, .pure, .read, .pure, .pure, .read, .pure, .pure, .pure, .read, .pure, .read, .pure, .pure, .read, .pure, .pure, .pure, .read, .pure, .pure, .pure, .pure, .read, .pure, .pure, .read, .pure, .pure, .pure, .read, .read, .pure, .pure, .read, .pure, .pure, .pure, .read, .pure, .pure, .pure] [0, 1, 3, 7, 0, 31, 63, 127, 0, 256, 768, 1792, 0, 7936, 16128, 32512, 65535, 131071, 262143, 524287, 1048575, 2097151, 262143, 8388607, 16777215, 33554431, 67108863, 262143, 134479871, 402915327, 939786239, 262143, 4161011711, 8455979007, 17045913599, 34225782783, 68719476735, 137438953471, 274877906943, 549755813887, 1099511627775, 2199023255551, 4398046511103, 549755813887, 17592186044415, 35184372088831, 70368744177663, 549755813887, 141287244169215, 422762220879871, 985712174301183, 549755813887, 4363411894829055, 8867011522199551, 17874210776940543, 36028797018963967, 72057594037927935, 144115188075855871] [0, 1, 2, 3, 4, 5, 6, 7, 8, 9, 10, 11, 12, 13, 14, 15, 16, 17, 18, 19, 20, 21, 22, 23, 24, 25, 26, 27, 28, 29, 30, 31, 32, 33, 34, 35, 36, 37, 38, 39, 40, 41, 42, 43, 44, 45, 46, 47, 48, 49, 50, 51, 52, 53, 54, 55, 56, 57] := ⟨trivial⟩
instance : DrawD 125 3 [.read, .read, .new, .any, .pure, .pure, .pure, .pure, .pure] [0, 0, 2, 7, 15, 31, 31, 63, 255] [0, 1, 2, 3, 4, 5, 6, 7, 8] := ⟨trivial⟩
instance : DrawD 125 9 [.read, .read, .new, .any, .pure, .pure, .pure, .pure] [0, 0, 2, 7, 15, 31, 31, 127] [0, 1, 2, 3, 4, 5, 6, 7] := ⟨trivial⟩
instance : DrawD 127 8 [.read, .read, .new, .any, .pure, .pure, .pure, .pure, .pure] [0, 0, 2, 7, 15, 31, 31, 63, 255] [0, 1, 2, 3, 4, 5, 6, 7, 8] := ⟨trivial⟩
instance : DrawD 127 15 [.read, .pure, .pure, .pure, .pure, .any, .pure, .pure, .pure, .pure] [0, 0, 0, 6, 14, 31, 63, 127, 127, 511] [0, 1, 2, 3, 4, 5, 6, 7, 8, 9] := ⟨trivial⟩
instance : DrawD 129 1 [.read, .pure, .pure, .read, .read, .pure, .pure, .read, .read, .pure, .pure, .read, .pure] [0, 1, 3, 7, 0, 0, 48, 112, 255, 511, 1023, 2047, 4095] [0, 1, 2, 3, 4, 5, 6, 7, 8, 9, 10, 11, 12] := ⟨trivial⟩
instance : DrawD 129 2 [.read, .pure, .pure, .read, .read, .pure, .pure, .read, .read, .pure, .pure, .read, .pure] [0, 1, 3, 7, 0, 0, 48, 112, 255, 511, 1023, 2047, 4095] [0, 1, 2, 3, 4, 5, 6, 7, 8, 9, 10, 11, 12] := ⟨trivial⟩
instance : DrawD 129 4 [.read, .pure, .pure, .read, .read, .pure, .pure, .read, .pure, .pure] [0, 0, 3, 7, 0, 0, 48, 112, 255, 511] [0, 1, 2, 3, 4, 5, 6, 7, 8, 9] := ⟨trivial⟩
instance : DrawD 131 12 [.pure, .pure, .pure, .pure, .pure, .pure, .any] [0, 0, 0, 4, 12, 30, 63] [0, 1, 2, 3, 4, 5, 6] := ⟨trivial⟩
instance : DrawD 132 9 [.pure, .pure, .pure, .pure, .read, .pure, .pure, .pure, .pure, .read, .any] [0, 0, 0, 4, 14, 30, 0, 64, 192, 448, 1023] [0, 1, 2, 3, 4, 5, 6, 7, 8, 9, 10] := ⟨trivial⟩
instance : DrawD 132 19 [.pure, .pure, .pure, .pure, .read, .pure, .pure, .pure, .pure, .pure, .read, .any] [0, 0, 0, 0, 12, 28, 62, 0, 128, 384, 896, 2047] [0, 1, 2, 3, 4, 5, 6, 7, 8, 9, 10, 11] := ⟨trivial⟩
instance : DrawD 133 1 [.pure, .pure, .read, .pure, .pure, .pure, .pure, .read, .any] [0, 0, 2, 6, 0, 16, 48, 112, 255] [0, 1, 2, 3, 4, 5, 6, 7, 8] := ⟨trivial⟩
instance : DrawD 133 10 [.pure, .pure, .pure, .pure, .read, .pure, .pure, .pure, .pure, .read, .any] [0, 0, 0, 4, 12, 30, 0, 64, 192, 448, 1023] [0, 1, 2, 3, 4, 5, 6, 7, 8, 9, 10] := ⟨trivial⟩
instance : DrawD 133 17 [.pure, .pure, .read, .pure, .pure, .pure, .pure, .pure, .pure, .pure, .read, .any] [0, 0, 2, 6, 0, 16, 62, 0, 128, 384, 896, 2047] [0, 1, 2, 3, 4, 5, 6, 7, 8, 9, 10, 11] := ⟨trivial⟩
instance : DrawD 133 29 [.pure, .pure, .pure, .read, .pure, .pure, .pure, .pure, .pure, .pure, .read, .any] [0, 1, 3, 7, 0, 31, 0, 0, 0, 384, 960, 2047] [0, 1, 2, 3, 4, 5, 6, 7, 8, 9, 10, 11] := ⟨trivial⟩
instance : KeepT 3 [78, 79, 80] := ⟨trivial⟩
instance : KeepT 4 [8, 9, 10] := ⟨trivial⟩
instance : KeepT 6 [8, 9, 10] := ⟨trivial⟩
instance : KeepT 7 [6, 7, 8] := ⟨trivial⟩
instance : KeepT 9 [28, 29, 30, 44, 45, 46, 71, 84, 85, 86, 100, 101, 102] := ⟨trivial⟩
instance : KeepT 12 [8, 9, 10] := ⟨trivial⟩
instance : KeepT 13 [9, 10, 11] := ⟨trivial⟩
instance : KeepT 14 [33, 34, 35, 41] := ⟨trivial⟩
instance : KeepT 15 [6, 7, 8] := ⟨trivial⟩
instance : KeepT 17 [4] := ⟨trivial⟩
instance : KeepT 18 [13, 14, 15, 34, 35, 36] := ⟨trivial⟩
instance : KeepT 22 [7, 8, 9] := ⟨trivial⟩
instance : KeepT 25 [11, 12, 13] := ⟨trivial⟩
instance : KeepT 27 [43, 44, 45] := ⟨trivial⟩
instance : KeepT 29 [60] := ⟨trivial⟩
instance : KeepT 34 [134, 135, 326, 327, 328] := ⟨trivial⟩
instance : KeepT 36 [6, 7, 8] := ⟨trivial⟩
instance : KeepT 40 [69, 70, 71, 189, 190, 191] := ⟨trivial⟩
instance : KeepT 41 [58, 59, 60] := ⟨trivial⟩
instance : KeepT 47 [165, 265, 298, 346, 347, 348] := ⟨trivial⟩
instance : KeepT 58 [9] := ⟨trivial⟩
instance : KeepT 64 [28, 72, 73, 74] := ⟨trivial⟩
instance : KeepT 66 [20, 21, 22, 134] := ⟨trivial⟩
instance : KeepT 71 [183, 184, 218, 219, 361, 362, 424, 425] := ⟨trivial⟩
instance : KeepT 73 [28, 29, 30] := ⟨trivial⟩
instance : KeepT 78 [117, 118, 119, 139, 140, 141] := ⟨trivial⟩
instance : KeepT 79 [170, 171, 172, 182, 183, 184] := ⟨trivial⟩
instance : KeepT 85 [71, 72, 130, 131, 156, 157] := ⟨trivial⟩
instance : KeepT 93 [7, 8] := ⟨trivial⟩
instance : KeepT 100 [55, 99, 100, 101] := ⟨trivial⟩
instance : KeepT 103 [19, 20, 21] := ⟨trivial⟩
instance : KeepT 112 [98, 99, 105, 106] := ⟨trivial⟩
instance : KeepT 113 [18] := ⟨trivial⟩
instance : KeepT 117 [24, 25] := ⟨trivial⟩
instance : KeepT 121 [6, 7] := ⟨trivial⟩
instance : KeepT 128 [4] := ⟨trivial⟩
instance : KeepT 136 [4] := ⟨trivial⟩
instance : KeepT 137 [9, 10, 11] := ⟨trivial⟩
end Go.Proofs.YtcdalfhkhifplaaGreatDoor
namespace Go.Proofs.YtcdalfhkhifplaaGreatDoor
open Go
theorem e_draw {X : Fx} {k : List Item} {loc : List Value} {tmp : List (Nat × Value)} {L : List HP} {id : Nat} {l : List Oper} {cs : List Cls} {M pi : List Nat} [DrawD X.f id cs M pi]
    (h : EO X l.toArray (cfl cs) k pi (pick l pi) loc [] L) (hm : X.P.follows .mixedOrders = true := by exact mixed) (hB : okB l.toArray (cfl cs) M pi = true := by kernel_rfl) (hqc : qOK X.q cs = true := by rfl) (hkt : X.kt = none := by rfl) : E X (.code (.region id l.toArray true) :: k) loc tmp L :=
  e_region_draw (cfl cs) M pi hm hB h (qOK_spec hqc) hkt
inductive KeepR (tmp : List (Nat × Value)) : List Nat → List (Nat × Value) → Prop where
  | nil : KeepR tmp [] []
  | yes {t : Nat} {v : Value} {ks : List Nat} {l : List (Nat × Value)} : lk tmp t = some v → KeepR tmp ks l → KeepR tmp (t :: ks) ((t, v) :: l)
  | no {t : Nat} {ks : List Nat} {l : List (Nat × Value)} : lk tmp t = none → KeepR tmp ks l → KeepR tmp (t :: ks) l
theorem KeepR.sub {tmp : List (Nat × Value)} {ks : List Nat} {l : List (Nat × Value)} (h : KeepR tmp ks l) : ∀ t v, lk l t = some v → lk tmp t = some v := by
  induction h with
  | nil => intro t v h; cases h
  | @yes t v ks l h1 _ ih =>
    intro s u hs
    simp only [lk] at hs
    cases hb : Nat.beq t s with
    | true => rw [hb] at hs; simp at hs; have := Nat.eq_of_beq_eq_true hb; subst this; rw [h1, hs]
    | false => rw [hb] at hs; exact ih s u hs
  | no _ _ ih => exact ih
theorem Rel.sub {n : Nat} {loc : List Value} {tmp tmp' : List (Nat × Value)} {a : Act} (h : Rel n loc tmp a) (hs : ∀ t v, lk tmp' t = some v → lk tmp t = some v) : Rel n loc tmp' a := ⟨h.defers, h.size, h.hloc, fun t v hn ht => h.htmp t v hn (hs t v ht)⟩
theorem e_regionK {X : Fx} {k : List Item} {loc : List Value} {tmp tmp' : List (Nat × Value)} {L : List HP} {id : Nat} {l : List Oper} {ks : List Nat} [KeepT X.f ks] (h : EO X l.toArray (fun _ => .any) k (List.range' 0 l.length) l loc tmp' L) (hk : KeepR tmp ks tmp') (hkt : X.kt = none := by rfl) : E X (.code (.region id l.toArray false) :: k) loc tmp L := fun w0 S0 a w hr hs =>
  tt_region (fun _ => .any) (by
    rw [List.range_eq_range']
    have h1 := h ⟨by simpa using range_map [] 0 (by simp) rfl, fun _ _ => rfl⟩ w0 S0 a w (hr.sub hk.sub) hs
    unfold Fx.kont at h1
    rwa [hkt] at h1)
theorem e_drawK {X : Fx} {k : List Item} {loc : List Value} {tmp tmp' : List (Nat × Value)} {L : List HP} {id : Nat} {l : List Oper} {cs : List Cls} {M pi ks : List Nat} [DrawD X.f id cs M pi] [KeepT X.f ks]
    (h : EO X l.toArray (cfl cs) k pi (pick l pi) loc tmp' L) (hk : KeepR tmp ks tmp') (hm : X.P.follows .mixedOrders = true := by exact mixed) (hB : okB l.toArray (cfl cs) M pi = true := by kernel_rfl) (hqc : qOK X.q cs = true := by rfl) (hkt : X.kt = none := by rfl) : E X (.code (.region id l.toArray true) :: k) loc tmp L := fun w0 S0 a w hr hs =>
  tt_region_draw (cfl cs) M pi hm hB (by
    have h1 := h ⟨pick_map fun i hi => by have := (okB_spec hB).lt i hi; simpa using this, qOK_spec hqc⟩ w0 S0 a w (hr.sub hk.sub) hs
    unfold Fx.kont at h1
    rwa [hkt] at h1)
theorem e_pair {X : Fx} {k : List Item} {loc : List Value} {tmp : List (Nat × Value)} {L : List HP} {id : Nat} {l : List Oper} {cs : List Cls} {M pre : List Nat} {x y : Nat} {post : List Nat} [PairD X.f id cs M pre x y post]
    (h : EO { X with kt := some (.pr x y post) } l.toArray (cfl cs) k pre (pick l pre) loc [] L) (hm : X.P.follows .mixedOrders = true := by exact mixed) (hB : okPB l.toArray (cfl cs) M pre x y post = true := by kernel_rfl) (hqc : qOK X.q cs = true := by rfl) : E X (.code (.region id l.toArray true) :: k) loc tmp L :=
  e_region_pair (cfl cs) M pre post x y hm hB h (fun _ _ h => by cases h) (qOK_spec hqc)
theorem e_pairK {X : Fx} {k : List Item} {loc : List Value} {tmp tmp' : List (Nat × Value)} {L : List HP} {id : Nat} {l : List Oper} {cs : List Cls} {M pre ks : List Nat} {x y : Nat} {post : List Nat} [PairD X.f id cs M pre x y post] [KeepT X.f ks]
    (h : EO { X with kt := some (.pr x y post) } l.toArray (cfl cs) k pre (pick l pre) loc tmp' L) (hk : KeepR tmp ks tmp') (hm : X.P.follows .mixedOrders = true := by exact mixed) (hB : okPB l.toArray (cfl cs) M pre x y post = true := by kernel_rfl) (hqc : qOK X.q cs = true := by rfl) : E X (.code (.region id l.toArray true) :: k) loc tmp L :=
  e_region_pair (cfl cs) M pre post x y hm hB h hk.sub (qOK_spec hqc)
theorem e_planK {X : Fx} {k : List Item} {loc : List Value} {tmp tmp' : List (Nat × Value)} {L : List HP} {id : Nat} {l : List Oper} {cs : List Cls} {M pi seq ks : List Nat} {p : Pln} [PlanD X.f id cs M pi seq p] [KeepT X.f ks]
    (h : EO { X with kt := some (.pl p) } l.toArray (cfl cs) k seq (pick l seq) loc tmp' L) (hk : KeepR tmp ks tmp') (hm : X.P.follows .mixedOrders = true := by exact mixed) (hB : (okBX l.toArray (cfl cs) M pi (fun _ _ => true) && okPl l.toArray (cfl cs) M pi (.ones seq p)) = true := by kernel_rfl) (hb : p.brk = true := by rfl) (hlt : (seq.all fun i => Nat.blt i l.length) = true := by rfl) (hqc : qOK X.q cs = true := by rfl) : E X (.code (.region id l.toArray true) :: k) loc tmp L :=
  e_region_plan (cfl cs) M pi seq p hm hB hb hlt h hk.sub (qOK_spec hqc)
theorem e_plan {X : Fx} {k : List Item} {loc : List Value} {tmp : List (Nat × Value)} {L : List HP} {id : Nat} {l : List Oper} {cs : List Cls} {M pi seq : List Nat} {p : Pln} [PlanD X.f id cs M pi seq p]
    (h : EO { X with kt := some (.pl p) } l.toArray (cfl cs) k seq (pick l seq) loc [] L) (hm : X.P.follows .mixedOrders = true := by exact mixed) (hB : (okBX l.toArray (cfl cs) M pi (fun _ _ => true) && okPl l.toArray (cfl cs) M pi (.ones seq p)) = true := by kernel_rfl) (hb : p.brk = true := by rfl) (hlt : (seq.all fun i => Nat.blt i l.length) = true := by rfl) (hqc : qOK X.q cs = true := by rfl) : E X (.code (.region id l.toArray true) :: k) loc tmp L :=
  e_region_plan (cfl cs) M pi seq p hm hB hb hlt h (fun _ _ h => by cases h) (qOK_spec hqc)
theorem e_roundsK {X : Fx} {k : List Item} {loc : List Value} {tmp : List (Nat × Value)} {L : List HP} {ι : Type} {c : Code} (m : ι → Nat) (loI : ι → List Value) (tmI : ι → List (Nat × Value)) (LI : ι → List HP) (PI : ι → Prop) (i0 : ι) {ks : List Nat} (h0 : PI i0) (hl : loc = loI i0) (ht : KeepR tmp ks (tmI i0)) (hL : L.Perm (LI i0))
    (round : ∀ i, PI i → (∀ j, m j < m i → PI j → E X (.inLoop c :: k) (loI j) (tmI j) (LI j)) → E X (.code c :: .inLoop c :: k) (loI i) (tmI i) (LI i)) :
    E X (.code (.loop c) :: k) loc tmp L := by
  have key : ∀ d i, m i = d → PI i → E X (.code c :: .inLoop c :: k) (loI i) (tmI i) (LI i) := by
    intro d
    induction d using Nat.strongRecOn with
    | _ d ih =>
      intro i hd hp
      refine round i hp fun j hj hpj w0 S0 a w hr hs => tt_inLoop (ih (m j) (hd ▸ hj) j rfl hpj w0 S0 a w hr hs)
  exact fun w0 S0 a w hr hs => tt_loop (key _ i0 rfl h0 w0 S0 a w (hl ▸ hr.sub ht.sub) (hs.perm hL))
theorem E.toK {X : Fx} {k : List Item} {loc loc' : List Value} {tmp tmp' : List (Nat × Value)} {L L' : List HP} {ks : List Nat} (h : E X k loc' tmp' L') (hl : loc = loc') (hL : L = L') (ht : KeepR tmp ks tmp') : E X k loc tmp L := by
  subst hl hL; exact fun w0 S0 a w hr hs => h w0 S0 a w (hr.sub ht.sub) hs
theorem is_reg {X : Fx} {k : List Item} {loc : List Value} {tmp : List (Nat × Value)} {L : List HP} {id : Nat} {a : Array Oper} (h : E X (.code (.region id a false) :: k) loc tmp L) : E X (.code (.region id a false) :: k) loc tmp L := h
theorem is_op {X : Fx} {ops : Array Oper} {cf : Nat → Cls} {k : List Item} {i : Nat} {is : List Nat} {l : List Oper} {loc : List Value} {tmp : List (Nat × Value)} {L : List HP} {o : Oper} (h : EO X ops cf k (i :: is) (o :: l) loc tmp L) : EO X ops cf k (i :: is) (o :: l) loc tmp L := h
theorem is_E {X : Fx} {k : List Item} {loc : List Value} {tmp : List (Nat × Value)} {L : List HP} (h : E X k loc tmp L) : E X k loc tmp L := h
theorem is_draw {X : Fx} {k : List Item} {loc : List Value} {tmp : List (Nat × Value)} {L : List HP} {id : Nat} {a : Array Oper} (h : E X (.code (.region id a true) :: k) loc tmp L) : E X (.code (.region id a true) :: k) loc tmp L := h
theorem pt_ {loc loc' : List Value} {tmp tmp' : List (Nat × Value)} {d : Option Tmp} {v : Value} (h : Pt loc tmp d v loc' tmp' := by first | exact Pt.tmp rfl | exact Pt.none | exact Pt.loc (by repeat constructor)) : Pt loc tmp d v loc' tmp' := h
theorem take_ {A : HP} {L F : List HP} (h : Take A L F := by first | ((repeat (first | (with_reducible exact Take.here) | (with_reducible apply Take.there))) <;> fail) | fail) : Take A L F := h
theorem sub_ {M L F : List HP} (h : Subs M L F := by first | ((repeat (first | exact Subs.nil | (apply Subs.cons; (repeat (first | (with_reducible exact Take.here) | (with_reducible apply Take.there)))))) <;> fail) | fail) : Subs M L F := h
theorem wr_ {a b : Int} (h : a = b := by first | exact wi64 (by omega) (by omega) | exact wu32 (by omega) (by omega) | exact wu64 (by omega) (by omega) | exact wu16 (by omega) (by omega) | exact wu8 (by omega) (by omega) | exact wm8 _ | exact wm16 _ | exact wm32 _ | rfl) : a = b := h
structure Hold (G : Prop) : Prop where out : G
theorem op1 {P G : Prop} (h : G) (hs : Hold G → P := by
  intro h
  refine is_op ?_; first | (refine is_guard ?_; first | refine x_skip rfl pt_ rfl ?_ | fail) | (refine is_move ?_; first | refine x_move rfl pt_ ?_ | fail) | (refine is_assign ?_; first | refine x_assign rfl pt_ ?_ | fail) | (refine is_nilCheck ?_; first | refine x_nilCheck rfl pt_ ?_ | fail) | (refine is_fieldAddr ?_; first | refine x_fieldAddr rfl pt_ ?_ | fail) | (refine is_load ?_; first | refine x_load rfl (by first | ((repeat (first | ((with_reducible apply Cell.here); exact rfl) | (with_reducible apply Cell.there))) <;> fail) | fail) pt_ ?_ | refine x_loadS rfl (by first | ((repeat (first | ((with_reducible apply Rows.here); (focus (repeat constructor))) | (with_reducible apply Rows.there))) <;> fail) | fail) pt_ ?_ | fail) | (refine is_min ?_; first | refine x_min rfl rfl pt_ ?_ | fail) | (refine is_max ?_; first | refine x_max rfl rfl pt_ ?_ | fail) | (refine is_cap ?_; first | refine x_cap rfl pt_ ?_ | fail) | (refine is_entry ?_; first | refine x_entry rfl take_ (by assumption) pt_ ?_ | fail) | (refine is_makeFunc ?_; first | refine x_func rfl rfl pt_ ?_ | fail) | (refine is_field ?_; first | refine x_fld rfl rfl pt_ ?_ | refine x_fldA rfl rfl pt_ ?_ | fail) | (refine is_store ?_; first | refine x_store rfl rfl rfl (by first | ((repeat (first | ((with_reducible apply Put.here); (repeat constructor)) | (with_reducible apply Put.there))) <;> fail) | fail) ?_ | refine x_storeA rfl rfl rfl rfl rfl (by first | ((repeat (first | ((with_reducible apply PutA.here); (focus (repeat (first | exact SetR.nil | (apply SetR.cons; (focus (repeat constructor))))))) | (with_reducible apply PutA.there))) <;> fail) | fail) ?_ | fail) | (refine is_convert ?_; first | refine x_convN rfl wr_ pt_ ?_ | refine x_conv rfl wr_ pt_ ?_ | fail) | (refine is_shl ?_; first | refine x_shlN rfl rfl (by first | decide | (simp only [IntKind.bits]; omega)) wr_ pt_ ?_ | fail) | (refine is_shr ?_; first | refine x_shrN rfl rfl (by first | decide | (simp only [IntKind.bits]; omega)) pt_ ?_ | fail) | (refine is_len ?_; first | refine x_len rfl pt_ ?_ | refine x_lenT rfl pt_ ?_ | refine x_lenS rfl pt_ ?_ | fail) | (refine is_eql ?_; first | refine x_eqP rfl rfl pt_ ?_ | refine x_eqI rfl rfl pt_ ?_ | refine x_eqM rfl rfl pt_ ?_ | refine x_eqS rfl rfl pt_ ?_ | refine x_sEq rfl rfl rfl pt_ ?_ | refine x_bin rfl rfl (by exact bEqT (by first | omega | decide)) pt_ ?_ | refine x_bin rfl rfl (by exact bEqF (by first | omega | decide)) pt_ ?_ | refine x_bin rfl rfl rfl pt_ ?_ | fail) | (refine is_neq ?_; first | refine x_neP rfl rfl pt_ ?_ | refine x_neI rfl rfl pt_ ?_ | refine x_sNe rfl rfl rfl pt_ ?_ | refine x_bin rfl rfl (by exact bNeT (by first | omega | decide)) pt_ ?_ | refine x_bin rfl rfl (by exact bNeF (by first | omega | decide)) pt_ ?_ | refine x_bin rfl rfl rfl pt_ ?_ | fail) | (refine is_unOp ?_; first | refine x_not rfl pt_ ?_ | fail) | (refine is_extract ?_; first | refine x_extract rfl rfl pt_ ?_ | fail) | (refine is_pick ?_; first | refine x_pick rfl rfl pt_ ?_ | fail) | (refine is_build ?_; first | refine x_bld rfl (by first | ((repeat (first | exact Bld.nil | (apply Bld.one; (exact rfl); (exact rfl); (focus (repeat constructor))) | (apply Bld.agg; (exact rfl); (exact rfl); (exact rfl); (focus (repeat (first | exact SetR.nil | (apply SetR.cons; (focus (repeat constructor))))))))) <;> fail) | fail) pt_ ?_ | fail) | (refine is_indexAddr ?_; first | refine x_atN rfl rfl (by omega) pt_ ?_ | refine x_atArrN rfl rfl (by omega) pt_ ?_ | fail) | (refine is_index ?_; first | refine x_sAt rfl rfl (by assumption) pt_ ?_ | refine x_idxA rfl rfl (by omega) rfl pt_ ?_ | fail) | (refine is_slice ?_; first | refine x_sH rfl rfl (by first | omega | (simp only [List.length_append, List.length_cons, List.length_nil]; omega)) pt_ ?_ | refine x_sL rfl rfl (by first | omega | (simp only [List.length_append, List.length_cons, List.length_nil]; omega)) pt_ ?_ | refine x_slArr0 rfl pt_ ?_ | refine x_slHi rfl rfl NatV.h (by omega) pt_ ?_ | refine x_slLo rfl rfl NatV.h (by omega) (by omega) (by omega) pt_ ?_ | refine x_slArrH rfl rfl NatV.h (by omega) pt_ ?_ | refine x_slArr rfl rfl NatV.h (by omega) pt_ ?_ | refine x_slLH rfl rfl rfl NatV.h NatV.h (by omega) (by omega) (by omega) pt_ ?_ | fail) | (refine is_add ?_; first | refine x_catT rfl rfl (by simp only [List.length_append, List.length_cons, List.length_nil]; omega) pt_ ?_ | refine x_bin rfl rfl (by exact bAddN wr_) pt_ ?_ | refine x_bin rfl rfl (by exact bAdd wr_) pt_ ?_ | refine x_bin rfl rfl rfl pt_ ?_ | fail) | (refine is_andNot ?_; first | refine x_bin rfl rfl (by exact bAndNot3 (by omega)) pt_ ?_ | refine x_bin rfl rfl rfl pt_ ?_ | fail) | (refine is_sub ?_; first | refine x_bin rfl rfl (by exact bSubN (by omega) wr_) pt_ ?_ | refine x_bin rfl rfl (by exact bSub wr_) pt_ ?_ | refine x_bin rfl rfl rfl pt_ ?_ | fail) | (refine is_mul ?_; first | refine x_bin rfl rfl (by exact bMulN wr_) pt_ ?_ | refine x_bin rfl rfl (by exact bMul wr_) pt_ ?_ | refine x_bin rfl rfl rfl pt_ ?_ | fail) | (refine is_quo ?_; first | refine x_bin rfl rfl (by exact bQuoN (by omega) wr_) pt_ ?_ | refine x_bin rfl rfl (by exact bQuo (by omega) (by omega) wr_) pt_ ?_ | refine x_bin rfl rfl rfl pt_ ?_ | fail) | (refine is_rem ?_; first | refine x_bin rfl rfl (by exact bRemN (by omega)) pt_ ?_ | refine x_bin rfl rfl (by exact bRem (by omega) (by omega)) pt_ ?_ | refine x_bin rfl rfl rfl pt_ ?_ | fail) | (refine is_and ?_; first | refine x_bin rfl rfl (by exact bAndN wr_ wr_) pt_ ?_ | refine x_bin rfl rfl rfl pt_ ?_ | fail) | (refine is_or ?_; first | refine x_bin rfl rfl (by exact bOrN wr_ wr_) pt_ ?_ | refine x_bin rfl rfl rfl pt_ ?_ | fail) | (refine is_xor ?_; first | refine x_bin rfl rfl (by exact bXorN wr_ wr_) pt_ ?_ | refine x_bin rfl rfl rfl pt_ ?_ | fail) | (refine is_lss ?_; first | refine x_bin rfl rfl (by exact bLtT (by first | omega | decide)) pt_ ?_ | refine x_bin rfl rfl (by exact bLtF (by first | omega | decide)) pt_ ?_ | refine x_bin rfl rfl rfl pt_ ?_ | fail) | (refine is_leq ?_; first | refine x_bin rfl rfl (by exact bLeT (by first | omega | decide)) pt_ ?_ | refine x_bin rfl rfl (by exact bLeF (by first | omega | decide)) pt_ ?_ | refine x_bin rfl rfl rfl pt_ ?_ | fail) | (refine is_gtr ?_; first | refine x_bin rfl rfl (by exact bGtT (by first | omega | decide)) pt_ ?_ | refine x_bin rfl rfl (by exact bGtF (by first | omega | decide)) pt_ ?_ | refine x_bin rfl rfl rfl pt_ ?_ | fail) | (refine is_geq ?_; first | refine x_bin rfl rfl (by exact bGeT (by first | omega | decide)) pt_ ?_ | refine x_bin rfl rfl (by exact bGeF (by first | omega | decide)) pt_ ?_ | refine x_bin rfl rfl rfl pt_ ?_ | fail) | fail
  exact h.out) : P := hs ⟨h⟩
theorem walk {P G : Prop} (h : G) (hs : Hold G → P := by
  intro h
  repeat (first | (refine is_op ?_; first | (refine is_guard ?_; first | refine x_skip rfl pt_ rfl ?_ | fail) | (refine is_move ?_; first | refine x_move rfl pt_ ?_ | fail) | (refine is_assign ?_; first | refine x_assign rfl pt_ ?_ | fail) | (refine is_nilCheck ?_; first | refine x_nilCheck rfl pt_ ?_ | fail) | (refine is_fieldAddr ?_; first | refine x_fieldAddr rfl pt_ ?_ | fail) | (refine is_load ?_; first | refine x_load rfl (by first | ((repeat (first | ((with_reducible apply Cell.here); exact rfl) | (with_reducible apply Cell.there))) <;> fail) | fail) pt_ ?_ | refine x_loadS rfl (by first | ((repeat (first | ((with_reducible apply Rows.here); (focus (repeat constructor))) | (with_reducible apply Rows.there))) <;> fail) | fail) pt_ ?_ | fail) | (refine is_min ?_; first | refine x_min rfl rfl pt_ ?_ | fail) | (refine is_max ?_; first | refine x_max rfl rfl pt_ ?_ | fail) | (refine is_cap ?_; first | refine x_cap rfl pt_ ?_ | fail) | (refine is_entry ?_; first | refine x_entry rfl take_ (by assumption) pt_ ?_ | fail) | (refine is_makeFunc ?_; first | refine x_func rfl rfl pt_ ?_ | fail) | (refine is_field ?_; first | refine x_fld rfl rfl pt_ ?_ | refine x_fldA rfl rfl pt_ ?_ | fail) | (refine is_store ?_; first | refine x_store rfl rfl rfl (by first | ((repeat (first | ((with_reducible apply Put.here); (repeat constructor)) | (with_reducible apply Put.there))) <;> fail) | fail) ?_ | refine x_storeA rfl rfl rfl rfl rfl (by first | ((repeat (first | ((with_reducible apply PutA.here); (focus (repeat (first | exact SetR.nil | (apply SetR.cons; (focus (repeat constructor))))))) | (with_reducible apply PutA.there))) <;> fail) | fail) ?_ | fail) | (refine is_convert ?_; first | refine x_convN rfl wr_ pt_ ?_ | refine x_conv rfl wr_ pt_ ?_ | fail) | (refine is_shl ?_; first | refine x_shlN rfl rfl (by first | decide | (simp only [IntKind.bits]; omega)) wr_ pt_ ?_ | fail) | (refine is_shr ?_; first | refine x_shrN rfl rfl (by first | decide | (simp only [IntKind.bits]; omega)) pt_ ?_ | fail) | (refine is_len ?_; first | refine x_len rfl pt_ ?_ | refine x_lenT rfl pt_ ?_ | refine x_lenS rfl pt_ ?_ | fail) | (refine is_eql ?_; first | refine x_eqP rfl rfl pt_ ?_ | refine x_eqI rfl rfl pt_ ?_ | refine x_eqM rfl rfl pt_ ?_ | refine x_eqS rfl rfl pt_ ?_ | refine x_sEq rfl rfl rfl pt_ ?_ | refine x_bin rfl rfl (by exact bEqT (by first | omega | decide)) pt_ ?_ | refine x_bin rfl rfl (by exact bEqF (by first | omega | decide)) pt_ ?_ | refine x_bin rfl rfl rfl pt_ ?_ | fail) | (refine is_neq ?_; first | refine x_neP rfl rfl pt_ ?_ | refine x_neI rfl rfl pt_ ?_ | refine x_sNe rfl rfl rfl pt_ ?_ | refine x_bin rfl rfl (by exact bNeT (by first | omega | decide)) pt_ ?_ | refine x_bin rfl rfl (by exact bNeF (by first | omega | decide)) pt_ ?_ | refine x_bin rfl rfl rfl pt_ ?_ | fail) | (refine is_unOp ?_; first | refine x_not rfl pt_ ?_ | fail) | (refine is_extract ?_; first | refine x_extract rfl rfl pt_ ?_ | fail) | (refine is_pick ?_; first | refine x_pick rfl rfl pt_ ?_ | fail) | (refine is_build ?_; first | refine x_bld rfl (by first | ((repeat (first | exact Bld.nil | (apply Bld.one; (exact rfl); (exact rfl); (focus (repeat constructor))) | (apply Bld.agg; (exact rfl); (exact rfl); (exact rfl); (focus (repeat (first | exact SetR.nil | (apply SetR.cons; (focus (repeat constructor))))))))) <;> fail) | fail) pt_ ?_ | fail) | (refine is_indexAddr ?_; first | refine x_atN rfl rfl (by omega) pt_ ?_ | refine x_atArrN rfl rfl (by omega) pt_ ?_ | fail) | (refine is_index ?_; first | refine x_sAt rfl rfl (by assumption) pt_ ?_ | refine x_idxA rfl rfl (by omega) rfl pt_ ?_ | fail) | (refine is_slice ?_; first | refine x_sH rfl rfl (by first | omega | (simp only [List.length_append, List.length_cons, List.length_nil]; omega)) pt_ ?_ | refine x_sL rfl rfl (by first | omega | (simp only [List.length_append, List.length_cons, List.length_nil]; omega)) pt_ ?_ | refine x_slArr0 rfl pt_ ?_ | refine x_slHi rfl rfl NatV.h (by omega) pt_ ?_ | refine x_slLo rfl rfl NatV.h (by omega) (by omega) (by omega) pt_ ?_ | refine x_slArrH rfl rfl NatV.h (by omega) pt_ ?_ | refine x_slArr rfl rfl NatV.h (by omega) pt_ ?_ | refine x_slLH rfl rfl rfl NatV.h NatV.h (by omega) (by omega) (by omega) pt_ ?_ | fail) | (refine is_add ?_; first | refine x_catT rfl rfl (by simp only [List.length_append, List.length_cons, List.length_nil]; omega) pt_ ?_ | refine x_bin rfl rfl (by exact bAddN wr_) pt_ ?_ | refine x_bin rfl rfl (by exact bAdd wr_) pt_ ?_ | refine x_bin rfl rfl rfl pt_ ?_ | fail) | (refine is_andNot ?_; first | refine x_bin rfl rfl (by exact bAndNot3 (by omega)) pt_ ?_ | refine x_bin rfl rfl rfl pt_ ?_ | fail) | (refine is_sub ?_; first | refine x_bin rfl rfl (by exact bSubN (by omega) wr_) pt_ ?_ | refine x_bin rfl rfl (by exact bSub wr_) pt_ ?_ | refine x_bin rfl rfl rfl pt_ ?_ | fail) | (refine is_mul ?_; first | refine x_bin rfl rfl (by exact bMulN wr_) pt_ ?_ | refine x_bin rfl rfl (by exact bMul wr_) pt_ ?_ | refine x_bin rfl rfl rfl pt_ ?_ | fail) | (refine is_quo ?_; first | refine x_bin rfl rfl (by exact bQuoN (by omega) wr_) pt_ ?_ | refine x_bin rfl rfl (by exact bQuo (by omega) (by omega) wr_) pt_ ?_ | refine x_bin rfl rfl rfl pt_ ?_ | fail) | (refine is_rem ?_; first | refine x_bin rfl rfl (by exact bRemN (by omega)) pt_ ?_ | refine x_bin rfl rfl (by exact bRem (by omega) (by omega)) pt_ ?_ | refine x_bin rfl rfl rfl pt_ ?_ | fail) | (refine is_and ?_; first | refine x_bin rfl rfl (by exact bAndN wr_ wr_) pt_ ?_ | refine x_bin rfl rfl rfl pt_ ?_ | fail) | (refine is_or ?_; first | refine x_bin rfl rfl (by exact bOrN wr_ wr_) pt_ ?_ | refine x_bin rfl rfl rfl pt_ ?_ | fail) | (refine is_xor ?_; first | refine x_bin rfl rfl (by exact bXorN wr_ wr_) pt_ ?_ | refine x_bin rfl rfl rfl pt_ ?_ | fail) | (refine is_lss ?_; first | refine x_bin rfl rfl (by exact bLtT (by first | omega | decide)) pt_ ?_ | refine x_bin rfl rfl (by exact bLtF (by first | omega | decide)) pt_ ?_ | refine x_bin rfl rfl rfl pt_ ?_ | fail) | (refine is_leq ?_; first | refine x_bin rfl rfl (by exact bLeT (by first | omega | decide)) pt_ ?_ | refine x_bin rfl rfl (by exact bLeF (by first | omega | decide)) pt_ ?_ | refine x_bin rfl rfl rfl pt_ ?_ | fail) | (refine is_gtr ?_; first | refine x_bin rfl rfl (by exact bGtT (by first | omega | decide)) pt_ ?_ | refine x_bin rfl rfl (by exact bGtF (by first | omega | decide)) pt_ ?_ | refine x_bin rfl rfl rfl pt_ ?_ | fail) | (refine is_geq ?_; first | refine x_bin rfl rfl (by exact bGeT (by first | omega | decide)) pt_ ?_ | refine x_bin rfl rfl (by exact bGeF (by first | omega | decide)) pt_ ?_ | refine x_bin rfl rfl rfl pt_ ?_ | fail) | fail) | (refine is_E ?_; first | refine e_seq ?_ | (refine is_reg ?_; refine e_regionK ?_ (by first | ((repeat (first | exact KeepR.nil | apply KeepR.yes rfl | apply KeepR.no rfl)) <;> fail) | fail)) | refine e_region ?_ | refine e_true rfl ?_ | refine e_false rfl ?_ | refine e_skip ?_ | refine e_block ?_ | refine e_inBlock ?_ | refine e_exit rfl ?_ | (refine is_draw ?_; refine e_drawK ?_ (by first | ((repeat (first | exact KeepR.nil | apply KeepR.yes rfl | apply KeepR.no rfl)) <;> fail) | fail)) | (refine is_draw ?_; refine e_draw ?_) | fail) | refine x_end ?_ | fail)
  exact h.out) : P := hs ⟨h⟩
theorem y_loop {X : Fx} {k : List Item} {loc : List Value} {tmp : List (Nat × Value)} {L : List HP} {c : Code} (h : E X (.code c :: .inLoop c :: k) loc tmp L) : E X (.code (.loop c) :: k) loc tmp L := fun w0 S0 a w hr hs => tt_loop (h w0 S0 a w hr hs)
theorem y_again {X : Fx} {k : List Item} {loc : List Value} {tmp : List (Nat × Value)} {L : List HP} {c : Code} (h : E X (.code c :: .inLoop c :: k) loc tmp L) : E X (.inLoop c :: k) loc tmp L := fun w0 S0 a w hr hs => tt_inLoop (h w0 S0 a w hr hs)
theorem walkO {P G : Prop} (h : G) (hs : Hold G → P := by
  intro h
  repeat (refine is_op ?_; first | (refine is_guard ?_; first | refine x_skip rfl pt_ rfl ?_ | fail) | (refine is_move ?_; first | refine x_move rfl pt_ ?_ | fail) | (refine is_assign ?_; first | refine x_assign rfl pt_ ?_ | fail) | (refine is_nilCheck ?_; first | refine x_nilCheck rfl pt_ ?_ | fail) | (refine is_fieldAddr ?_; first | refine x_fieldAddr rfl pt_ ?_ | fail) | (refine is_load ?_; first | refine x_load rfl (by first | ((repeat (first | ((with_reducible apply Cell.here); exact rfl) | (with_reducible apply Cell.there))) <;> fail) | fail) pt_ ?_ | refine x_loadS rfl (by first | ((repeat (first | ((with_reducible apply Rows.here); (focus (repeat constructor))) | (with_reducible apply Rows.there))) <;> fail) | fail) pt_ ?_ | fail) | (refine is_min ?_; first | refine x_min rfl rfl pt_ ?_ | fail) | (refine is_max ?_; first | refine x_max rfl rfl pt_ ?_ | fail) | (refine is_cap ?_; first | refine x_cap rfl pt_ ?_ | fail) | (refine is_entry ?_; first | refine x_entry rfl take_ (by assumption) pt_ ?_ | fail) | (refine is_makeFunc ?_; first | refine x_func rfl rfl pt_ ?_ | fail) | (refine is_field ?_; first | refine x_fld rfl rfl pt_ ?_ | refine x_fldA rfl rfl pt_ ?_ | fail) | (refine is_store ?_; first | refine x_store rfl rfl rfl (by first | ((repeat (first | ((with_reducible apply Put.here); (repeat constructor)) | (with_reducible apply Put.there))) <;> fail) | fail) ?_ | refine x_storeA rfl rfl rfl rfl rfl (by first | ((repeat (first | ((with_reducible apply PutA.here); (focus (repeat (first | exact SetR.nil | (apply SetR.cons; (focus (repeat constructor))))))) | (with_reducible apply PutA.there))) <;> fail) | fail) ?_ | fail) | (refine is_convert ?_; first | refine x_convN rfl wr_ pt_ ?_ | refine x_conv rfl wr_ pt_ ?_ | fail) | (refine is_shl ?_; first | refine x_shlN rfl rfl (by first | decide | (simp only [IntKind.bits]; omega)) wr_ pt_ ?_ | fail) | (refine is_shr ?_; first | refine x_shrN rfl rfl (by first | decide | (simp only [IntKind.bits]; omega)) pt_ ?_ | fail) | (refine is_len ?_; first | refine x_len rfl pt_ ?_ | refine x_lenT rfl pt_ ?_ | refine x_lenS rfl pt_ ?_ | fail) | (refine is_eql ?_; first | refine x_eqP rfl rfl pt_ ?_ | refine x_eqI rfl rfl pt_ ?_ | refine x_eqM rfl rfl pt_ ?_ | refine x_eqS rfl rfl pt_ ?_ | refine x_sEq rfl rfl rfl pt_ ?_ | refine x_bin rfl rfl (by exact bEqT (by first | omega | decide)) pt_ ?_ | refine x_bin rfl rfl (by exact bEqF (by first | omega | decide)) pt_ ?_ | refine x_bin rfl rfl rfl pt_ ?_ | fail) | (refine is_neq ?_; first | refine x_neP rfl rfl pt_ ?_ | refine x_neI rfl rfl pt_ ?_ | refine x_sNe rfl rfl rfl pt_ ?_ | refine x_bin rfl rfl (by exact bNeT (by first | omega | decide)) pt_ ?_ | refine x_bin rfl rfl (by exact bNeF (by first | omega | decide)) pt_ ?_ | refine x_bin rfl rfl rfl pt_ ?_ | fail) | (refine is_unOp ?_; first | refine x_not rfl pt_ ?_ | fail) | (refine is_extract ?_; first | refine x_extract rfl rfl pt_ ?_ | fail) | (refine is_pick ?_; first | refine x_pick rfl rfl pt_ ?_ | fail) | (refine is_build ?_; first | refine x_bld rfl (by first | ((repeat (first | exact Bld.nil | (apply Bld.one; (exact rfl); (exact rfl); (focus (repeat constructor))) | (apply Bld.agg; (exact rfl); (exact rfl); (exact rfl); (focus (repeat (first | exact SetR.nil | (apply SetR.cons; (focus (repeat constructor))))))))) <;> fail) | fail) pt_ ?_ | fail) | (refine is_indexAddr ?_; first | refine x_atN rfl rfl (by omega) pt_ ?_ | refine x_atArrN rfl rfl (by omega) pt_ ?_ | fail) | (refine is_index ?_; first | refine x_sAt rfl rfl (by assumption) pt_ ?_ | refine x_idxA rfl rfl (by omega) rfl pt_ ?_ | fail) | (refine is_slice ?_; first | refine x_sH rfl rfl (by first | omega | (simp only [List.length_append, List.length_cons, List.length_nil]; omega)) pt_ ?_ | refine x_sL rfl rfl (by first | omega | (simp only [List.length_append, List.length_cons, List.length_nil]; omega)) pt_ ?_ | refine x_slArr0 rfl pt_ ?_ | refine x_slHi rfl rfl NatV.h (by omega) pt_ ?_ | refine x_slLo rfl rfl NatV.h (by omega) (by omega) (by omega) pt_ ?_ | refine x_slArrH rfl rfl NatV.h (by omega) pt_ ?_ | refine x_slArr rfl rfl NatV.h (by omega) pt_ ?_ | refine x_slLH rfl rfl rfl NatV.h NatV.h (by omega) (by omega) (by omega) pt_ ?_ | fail) | (refine is_add ?_; first | refine x_catT rfl rfl (by simp only [List.length_append, List.length_cons, List.length_nil]; omega) pt_ ?_ | refine x_bin rfl rfl (by exact bAddN wr_) pt_ ?_ | refine x_bin rfl rfl (by exact bAdd wr_) pt_ ?_ | refine x_bin rfl rfl rfl pt_ ?_ | fail) | (refine is_andNot ?_; first | refine x_bin rfl rfl (by exact bAndNot3 (by omega)) pt_ ?_ | refine x_bin rfl rfl rfl pt_ ?_ | fail) | (refine is_sub ?_; first | refine x_bin rfl rfl (by exact bSubN (by omega) wr_) pt_ ?_ | refine x_bin rfl rfl (by exact bSub wr_) pt_ ?_ | refine x_bin rfl rfl rfl pt_ ?_ | fail) | (refine is_mul ?_; first | refine x_bin rfl rfl (by exact bMulN wr_) pt_ ?_ | refine x_bin rfl rfl (by exact bMul wr_) pt_ ?_ | refine x_bin rfl rfl rfl pt_ ?_ | fail) | (refine is_quo ?_; first | refine x_bin rfl rfl (by exact bQuoN (by omega) wr_) pt_ ?_ | refine x_bin rfl rfl (by exact bQuo (by omega) (by omega) wr_) pt_ ?_ | refine x_bin rfl rfl rfl pt_ ?_ | fail) | (refine is_rem ?_; first | refine x_bin rfl rfl (by exact bRemN (by omega)) pt_ ?_ | refine x_bin rfl rfl (by exact bRem (by omega) (by omega)) pt_ ?_ | refine x_bin rfl rfl rfl pt_ ?_ | fail) | (refine is_and ?_; first | refine x_bin rfl rfl (by exact bAndN wr_ wr_) pt_ ?_ | refine x_bin rfl rfl rfl pt_ ?_ | fail) | (refine is_or ?_; first | refine x_bin rfl rfl (by exact bOrN wr_ wr_) pt_ ?_ | refine x_bin rfl rfl rfl pt_ ?_ | fail) | (refine is_xor ?_; first | refine x_bin rfl rfl (by exact bXorN wr_ wr_) pt_ ?_ | refine x_bin rfl rfl rfl pt_ ?_ | fail) | (refine is_lss ?_; first | refine x_bin rfl rfl (by exact bLtT (by first | omega | decide)) pt_ ?_ | refine x_bin rfl rfl (by exact bLtF (by first | omega | decide)) pt_ ?_ | refine x_bin rfl rfl rfl pt_ ?_ | fail) | (refine is_leq ?_; first | refine x_bin rfl rfl (by exact bLeT (by first | omega | decide)) pt_ ?_ | refine x_bin rfl rfl (by exact bLeF (by first | omega | decide)) pt_ ?_ | refine x_bin rfl rfl rfl pt_ ?_ | fail) | (refine is_gtr ?_; first | refine x_bin rfl rfl (by exact bGtT (by first | omega | decide)) pt_ ?_ | refine x_bin rfl rfl (by exact bGtF (by first | omega | decide)) pt_ ?_ | refine x_bin rfl rfl rfl pt_ ?_ | fail) | (refine is_geq ?_; first | refine x_bin rfl rfl (by exact bGeT (by first | omega | decide)) pt_ ?_ | refine x_bin rfl rfl (by exact bGeF (by first | omega | decide)) pt_ ?_ | refine x_bin rfl rfl rfl pt_ ?_ | fail) | fail)
  exact h.out) : P := hs ⟨h⟩
theorem walko {P G : Prop} (h : G) (hs : Hold G → P := by
  intro h
  repeat (first | refine op1 ?_ | refine x_end ?_)
  exact h.out) : P := hs ⟨h⟩
theorem walk1 {P G : Prop} (h : G) (hs : Hold G → P := by
  intro h
  first | refine op1 ?_ | (refine is_E ?_; first | refine e_seq ?_ | (refine is_reg ?_; refine e_regionK ?_ (by first | ((repeat (first | exact KeepR.nil | apply KeepR.yes rfl | apply KeepR.no rfl)) <;> fail) | fail)) | refine e_region ?_ | refine e_true rfl ?_ | refine e_false rfl ?_ | refine e_skip ?_ | refine e_block ?_ | refine e_inBlock ?_ | refine e_exit rfl ?_ | (refine is_draw ?_; refine e_drawK ?_ (by first | ((repeat (first | exact KeepR.nil | apply KeepR.yes rfl | apply KeepR.no rfl)) <;> fail) | fail)) | (refine is_draw ?_; refine e_draw ?_) | fail) | refine x_end ?_ | fail
  repeat (first | refine op1 ?_ | (refine is_E ?_; first | refine e_seq ?_ | (refine is_reg ?_; refine e_regionK ?_ (by first | ((repeat (first | exact KeepR.nil | apply KeepR.yes rfl | apply KeepR.no rfl)) <;> fail) | fail)) | refine e_region ?_ | refine e_true rfl ?_ | refine e_false rfl ?_ | refine e_skip ?_ | refine e_block ?_ | refine e_inBlock ?_ | refine e_exit rfl ?_ | (refine is_draw ?_; refine e_drawK ?_ (by first | ((repeat (first | exact KeepR.nil | apply KeepR.yes rfl | apply KeepR.no rfl)) <;> fail) | fail)) | (refine is_draw ?_; refine e_draw ?_) | fail) | refine x_end ?_ | fail)
  exact h.out) : P := hs ⟨h⟩
section
variable {X : Fx} {ops : Array Oper} {cf : Nat → Cls} {k : List Item} {i : Nat} {is : List Nat} {l : List Oper} {loc loc' : List Value} {tmp tmp' : List (Nat × Value)} {L L' F M N : List HP}
  {d : Option Tmp} {ty : TypeId} {pos : String} {aft : Array Edge} {gd : Option (Nat × Bool)} {locf : Nat → List Value} {tmpf : Nat → List (Nat × Value)}
theorem y_alloc {T : Nat} {z : List Value} [hz : ZeroOf X.P T z] (h : ∀ g, EO X ops cf k is l (locf g) (tmpf g) (Cells g T z :: L))
    (hp : ∀ g, Pt loc tmp d (.pointer (some ⟨g, 0, none⟩)) (locf g) (tmpf g) := by intro g; first | exact Pt.tmp rfl | exact Pt.none | exact Pt.loc (by repeat constructor))
    (hg : gdv ops loc tmp gd = some true := by rfl) (hd : dOK X.n d = true := by rfl) (hcl : (cf i).news = true := by rfl) (hq : X.q = false := by rfl) : EO X ops cf k (i :: is) (⟨d, .alloc T, ty, pos, aft, gd⟩ :: l) loc tmp L :=
  x_alloc (fun g => ⟨_, _, hp g, h g⟩) hg hd hcl hq
theorem y_box {T : Nat} {x : Operand} {v : Value} (hx : sv loc tmp x = some v) (h : ∀ g, EO X ops cf k is l (locf g) (tmpf g) (Cells g T v.cells.toList :: L))
    (hp : ∀ g, Pt loc tmp d (.pointer (some ⟨g, 0, none⟩)) (locf g) (tmpf g) := by intro g; first | exact Pt.tmp rfl | exact Pt.none | exact Pt.loc (by repeat constructor))
    (hg : gdv ops loc tmp gd = some true := by rfl) (hd : dOK X.n d = true := by rfl) (hcl : (cf i).news = true := by rfl) (hq : X.q = false := by rfl) : EO X ops cf k (i :: is) (⟨d, .box T x, ty, pos, aft, gd⟩ :: l) loc tmp L :=
  x_box hx (fun g => ⟨_, _, hp g, h g⟩) hg hd hcl hq
theorem y_boxA {T : Nat} {x : Operand} {vs : List Value} (hx : sv loc tmp x = some (.agg vs.toArray)) (h : ∀ g, EO X ops cf k is l (locf g) (tmpf g) (Cells g T vs :: L))
    (hp : ∀ g, Pt loc tmp d (.pointer (some ⟨g, 0, none⟩)) (locf g) (tmpf g) := by intro g; first | exact Pt.tmp rfl | exact Pt.none | exact Pt.loc (by repeat constructor))
    (hg : gdv ops loc tmp gd = some true := by rfl) (hd : dOK X.n d = true := by rfl) (hcl : (cf i).news = true := by rfl) (hq : X.q = false := by rfl) : EO X ops cf k (i :: is) (⟨d, .box T x, ty, pos, aft, gd⟩ :: l) loc tmp L :=
  x_boxA hx (fun g => ⟨_, _, hp g, h g⟩) hg hd hcl hq
theorem y_map {T : Nat} (h : ∀ g, EO X ops cf k is l (locf g) (tmpf g) (MapS g [] :: L))
    (hp : ∀ g, Pt loc tmp d (.map (some g)) (locf g) (tmpf g) := by intro g; first | exact Pt.tmp rfl | exact Pt.none | exact Pt.loc (by repeat constructor))
    (hg : gdv ops loc tmp gd = some true := by rfl) (hd : dOK X.n d = true := by rfl) (hcl : (cf i).news = true := by rfl) (hq : X.q = false := by rfl) : EO X ops cf k (i :: is) (⟨d, .makeMap T none, ty, pos, aft, gd⟩ :: l) loc tmp L :=
  x_mkMap (fun g => ⟨_, _, hp g, h g⟩) hg hd hcl hq
theorem y_make {t e b n : Nat} {z : Value} {K K' : IntKind} {x y : Operand} {p : Int} [SlE X.P t e 1 b [z]] [hv : NatV p n] (hx : sv loc tmp x = some (.int K p)) (hy : sv loc tmp y = some (.int K' p))
    (h : ∀ g, EO X ops cf k is l (locf g) (tmpf g) (Own (some ⟨g, 0, none⟩) n e 1 n (List.replicate n z) :: L))
    (hb : b * n ≤ 281474976710656 := by omega) (h63 : n ≤ 9223372036854775807 := by omega)
    (hp : ∀ g, Pt loc tmp d (.slice (some ⟨g, 0, none⟩) n n) (locf g) (tmpf g) := by intro g; first | exact Pt.tmp rfl | exact Pt.none | exact Pt.loc (by repeat constructor))
    (hg : gdv ops loc tmp gd = some true := by rfl) (hd : dOK X.n d = true := by rfl) (hcl : (cf i).news = true := by rfl) (hq : X.q = false := by rfl) : EO X ops cf k (i :: is) (⟨d, .makeSlice t x y, ty, pos, aft, gd⟩ :: l) loc tmp L :=
  x_make hx hy hv.h hb h63 (fun g => ⟨_, _, hp g, h g⟩) hg hd hcl hq
theorem y_build0 {t e sz b : Nat} {z : List Value} [SlE X.P t e sz b z] (h : ∀ g, EO X ops cf k is l (locf g) (tmpf g) (Own (some ⟨g, 0, none⟩) 0 e sz 0 [] :: L))
    (hp : ∀ g, Pt loc tmp d (.slice (some ⟨g, 0, none⟩) 0 0) (locf g) (tmpf g) := by intro g; first | exact Pt.tmp rfl | exact Pt.none | exact Pt.loc (by repeat constructor))
    (hg : gdv ops loc tmp gd = some true := by rfl) (hd : dOK X.n d = true := by rfl) (hcl : (cf i).news = true := by rfl) (hq : X.q = false := by rfl) : EO X ops cf k (i :: is) (⟨d, .buildSlice t 0 #[], ty, pos, aft, gd⟩ :: l) loc tmp L :=
  x_build0 (fun g => ⟨_, _, hp g, h g⟩) hg hd hcl hq
theorem y_build1 {t e b n : Nat} {z : Value} {ps : List (Nat × Operand)} {vs : List Value} [SlE X.P t e 1 b [z]] (hv : svs loc tmp (ps.map (·.2)) = some vs)
    (h : ∀ g, EO X ops cf k is l (locf g) (tmpf g) (Own (some ⟨g, 0, none⟩) n e 1 n vs :: L))
    (hi : ps.map (·.1) = List.range' 0 n := by rfl) (hl : vs.length = n := by rfl) (h1 : vs.all (·.oneCell') = true := by rfl) (hn : Nat.ble n 16777216 = true := by rfl) (hpos : Nat.beq n 0 = false := by rfl)
    (hp : ∀ g, Pt loc tmp d (.slice (some ⟨g, 0, none⟩) n n) (locf g) (tmpf g) := by intro g; first | exact Pt.tmp rfl | exact Pt.none | exact Pt.loc (by repeat constructor))
    (hg : gdv ops loc tmp gd = some true := by rfl) (hd : dOK X.n d = true := by rfl) (hcl : (cf i).news = true := by rfl) (hq : X.q = false := by rfl) : EO X ops cf k (i :: is) (⟨d, .buildSlice t n ps.toArray, ty, pos, aft, gd⟩ :: l) loc tmp L :=
  x_build1 hv hi hl h1 hn hpos (fun g => ⟨_, _, hp g, h g⟩) hg hd hcl hq
theorem y_build {t e sz b n : Nat} {z : List Value} {ps : List (Nat × Operand)} {vs : List Value} {cs : List Value} [SlE X.P t e sz b z] (hv : svs loc tmp (ps.map (·.2)) = some vs)
    (hf : Instr.fill (fun i => some (i * sz, sz)) ((Array.range (n * sz)).map (z.toArray[· % z.length]!)) ((ps.map (·.1)).zip vs) = some cs.toArray) (hcs : cs.length = n * sz)
    (h : ∀ g, EO X ops cf k is l (locf g) (tmpf g) (Own (some ⟨g, 0, none⟩) n e sz n cs :: L))
    (hn : Nat.ble (n * sz) 16777216 = true := by rfl) (hnn : Nat.ble n 16777216 = true := by rfl) (hpos : Nat.beq (n * sz) 0 = false := by rfl)
    (hp : ∀ g, Pt loc tmp d (.slice (some ⟨g, 0, none⟩) n n) (locf g) (tmpf g) := by intro g; first | exact Pt.tmp rfl | exact Pt.none | exact Pt.loc (by repeat constructor))
    (hg : gdv ops loc tmp gd = some true := by rfl) (hd : dOK X.n d = true := by rfl) (hcl : (cf i).news = true := by rfl) (hq : X.q = false := by rfl) : EO X ops cf k (i :: is) (⟨d, .buildSlice t n ps.toArray, ty, pos, aft, gd⟩ :: l) loc tmp L :=
  x_build hv hf hn hnn hpos hcs (fun g => ⟨_, _, hp g, h g⟩) hg hd hcl hq
variable {loca : Option Addr → Nat → List Value} {tmpa : Option Addr → Nat → List (Nat × Value)}
theorem y_app1 {t e b n m c c' g o : Nat} {z : Value} {x y : Operand} {A : Option Addr} {vs news : List Value} [SlE X.P t e 1 b [z]] (hx : sv loc tmp x = some (.slice A n c)) (hy : sv loc tmp y = some (.slice (some ⟨g, o, none⟩) m c'))
    (h : ∀ A' c', EO X ops cf k is l (loca A' c') (tmpa A' c') (Own A' c' e 1 (n + m) (vs ++ news) :: F))
    (ht : Take (Own A c e 1 n vs) L F := by exact take_) (hr : CellRow F g o news := by first | ((repeat (first | exact CellRow.own | exact CellRow.here | apply CellRow.there)) <;> fail) | fail) (hm : news.length = m := by first | rfl | exact enc_len _ | simp) (h1 : news.all (·.oneCell') = true := by first | rfl | exact enc_all _) (h63 : n + m ≤ 1000000000000 := by omega) (hby : (n + m) * b ≤ 140737488355328 := by omega)
    (hp : ∀ A' c', Pt loc tmp d (.slice A' (n + m) c') (loca A' c') (tmpa A' c') := by intro A' c'; first | exact Pt.tmp rfl | exact Pt.none | exact Pt.loc (by repeat constructor))
    (hg : gdv ops loc tmp gd = some true := by rfl) (hd : dOK X.n d = true := by rfl) (hcl : cf i = .any := by rfl) (hq : X.q = false := by rfl) :
    EO X ops cf k (i :: is) (⟨d, .call ⟨.builtin .append, #[x, y], #[t, t]⟩, ty, pos, aft, gd⟩ :: l) loc tmp L :=
  x_app1 hx hy ht hr hm h1 h63 hby (fun A' c' => ⟨_, _, hp A' c', h A' c'⟩) hg hd hcl hq
theorem y_appE {t e n m c c' g o : Nat} {z : Value} {x y : Operand} {A : Option Addr} {bs us : List UInt8} [SlE X.P t e 1 1 [z]] (hx : sv loc tmp x = some (.slice A n c)) (hy : sv loc tmp y = some (.slice (some ⟨g, o, none⟩) m c'))
    (h : ∀ A' c', EO X ops cf k is l (loca A' c') (tmpa A' c') (Own A' c' e 1 (n + m) (enc (bs ++ us)) :: F))
    (ht : Take (Own A c e 1 n (enc bs)) L F := by exact take_) (hr : CellRow F g o (enc us) := by first | ((repeat (first | exact CellRow.own | exact CellRow.here | apply CellRow.there)) <;> fail) | fail) (hm : us.length = m := by first | rfl | assumption | simp) (h63 : n + m ≤ 1000000000000 := by omega)
    (hp : ∀ A' c', Pt loc tmp d (.slice A' (n + m) c') (loca A' c') (tmpa A' c') := by intro A' c'; first | exact Pt.tmp rfl | exact Pt.none | exact Pt.loc (by repeat constructor))
    (hg : gdv ops loc tmp gd = some true := by rfl) (hd : dOK X.n d = true := by rfl) (hcl : cf i = .any := by rfl) (hq : X.q = false := by rfl) :
    EO X ops cf k (i :: is) (⟨d, .call ⟨.builtin .append, #[x, y], #[t, t]⟩, ty, pos, aft, gd⟩ :: l) loc tmp L :=
  x_appE hx hy ht hr hm h63 (fun A' c' => ⟨_, _, hp A' c', h A' c'⟩) hg hd hcl hq
/-! ### maps -/
theorem y_lookS {T kt e g : Nat} {z u : Value} {x y : Operand} {s : ByteArray} {es : Ents} [hT : MapTy X.P T kt e z] (he : look es s = some u) (h : EO X ops cf k is l loc' tmp' L)
    (hx : sv loc tmp x = some (.map (some g)) := by rfl) (hy : sv loc tmp y = some (.string s) := by rfl) (ht : Take (MapS g es) L F := by exact take_) (hp : Pt loc tmp d u loc' tmp' := by exact pt_)
    (hg : gdv ops loc tmp gd = some true := by rfl) (hd : dOK X.n d = true := by rfl) (hcl : (cf i).reads = true := by rfl) : EO X ops cf k (i :: is) (⟨d, .lookup T x y false, ty, pos, aft, gd⟩ :: l) loc tmp L :=
  x_look hx hy ht (by rw [he]; exact hp) h hg hd hcl
theorem y_lookNo {T kt e g : Nat} {z : Value} {x y : Operand} {s : ByteArray} {es : Ents} [hT : MapTy X.P T kt e z] (he : look es s = none) (h : EO X ops cf k is l loc' tmp' L)
    (hx : sv loc tmp x = some (.map (some g)) := by rfl) (hy : sv loc tmp y = some (.string s) := by rfl) (ht : Take (MapS g es) L F := by exact take_) (hp : Pt loc tmp d z loc' tmp' := by exact pt_)
    (hg : gdv ops loc tmp gd = some true := by rfl) (hd : dOK X.n d = true := by rfl) (hcl : (cf i).reads = true := by rfl) : EO X ops cf k (i :: is) (⟨d, .lookup T x y false, ty, pos, aft, gd⟩ :: l) loc tmp L :=
  x_look hx hy ht (by rw [he]; exact hp) h hg hd hcl
theorem y_lookOkS {T kt e g : Nat} {z u : Value} {x y : Operand} {s : ByteArray} {es : Ents} [hT : MapTy X.P T kt e z] (he : look es s = some u) (h : EO X ops cf k is l loc' tmp' L)
    (hx : sv loc tmp x = some (.map (some g)) := by rfl) (hy : sv loc tmp y = some (.string s) := by rfl) (ht : Take (MapS g es) L F := by exact take_) (hp : Pt loc tmp d (.tuple #[u, .bool true]) loc' tmp' := by exact pt_)
    (hg : gdv ops loc tmp gd = some true := by rfl) (hd : dOK X.n d = true := by rfl) (hcl : (cf i).reads = true := by rfl) : EO X ops cf k (i :: is) (⟨d, .lookup T x y true, ty, pos, aft, gd⟩ :: l) loc tmp L :=
  x_lookOk hx hy ht (by rw [he]; exact hp) h hg hd hcl
theorem y_lookOkNo {T kt e g : Nat} {z : Value} {x y : Operand} {s : ByteArray} {es : Ents} [hT : MapTy X.P T kt e z] (he : look es s = none) (h : EO X ops cf k is l loc' tmp' L)
    (hx : sv loc tmp x = some (.map (some g)) := by rfl) (hy : sv loc tmp y = some (.string s) := by rfl) (ht : Take (MapS g es) L F := by exact take_) (hp : Pt loc tmp d (.tuple #[z, .bool false]) loc' tmp' := by exact pt_)
    (hg : gdv ops loc tmp gd = some true := by rfl) (hd : dOK X.n d = true := by rfl) (hcl : (cf i).reads = true := by rfl) : EO X ops cf k (i :: is) (⟨d, .lookup T x y true, ty, pos, aft, gd⟩ :: l) loc tmp L :=
  x_lookOk hx hy ht (by rw [he]; exact hp) h hg hd hcl
theorem y_mapSet {T kt e g : Nat} {z u : Value} {x y v : Operand} {s : ByteArray} {es : Ents} [hT : MapTy X.P T kt e z] (h : EO X ops cf k is l loc' tmp' (MapS g (upd es s u) :: F))
    (hx : sv loc tmp x = some (.map (some g)) := by rfl) (hy : sv loc tmp y = some (.string s) := by rfl) (hv : sv loc tmp v = some u := by rfl) (ht : Take (MapS g es) L F := by exact take_) (hp : Pt loc tmp d undef loc' tmp' := by exact pt_)
    (hg : gdv ops loc tmp gd = some true := by rfl) (hd : dOK X.n d = true := by rfl) (hcl : cf i = .any := by rfl) (hq : X.q = false := by rfl) : EO X ops cf k (i :: is) (⟨d, .mapUpdate T x y v, ty, pos, aft, gd⟩ :: l) loc tmp L :=
  x_mapSet hx hy hv ht hp h hg hd hcl hq
theorem y_lenM {t kt e g : Nat} {z : Value} {x : Operand} {es : Ents} [hT : MapTy X.P t kt e z] (hx : sv loc tmp x = some (.map (some g))) (h : EO X ops cf k is l loc' tmp' L)
    (ht : Take (MapS g es) L F := by exact take_) (hp : Pt loc tmp d (.int .i64 es.length) loc' tmp' := by exact pt_)
    (hg : gdv ops loc tmp gd = some true := by rfl) (hd : dOK X.n d = true := by rfl) (hcl : (cf i).reads = true := by rfl) : EO X ops cf k (i :: is) (⟨d, .call ⟨.builtin .len, #[x], #[t]⟩, ty, pos, aft, gd⟩ :: l) loc tmp L :=
  x_lenM hx ht hp h hg hd hcl
theorem y_range {T kt e gm : Nat} {z : Value} {x : Operand} {es : Ents} [hT : MapTy X.P T kt e z] (h : ∀ g, EO X ops cf k is l (locf g) (tmpf g) (MapIt g gm es [] :: F))
    (hx : sv loc tmp x = some (.map (some gm)) := by rfl) (ht : Take (MapS gm es) L F := by exact take_)
    (hp : ∀ g, Pt loc tmp d (.pointer (some ⟨g, 0, none⟩)) (locf g) (tmpf g) := by intro g; first | exact Pt.tmp rfl | exact Pt.none | exact Pt.loc (by repeat constructor))
    (hg : gdv ops loc tmp gd = some true := by rfl) (hd : dOK X.n d = true := by rfl) (hcl : cf i = .any := by rfl) (hq : X.q = false := by rfl) : EO X ops cf k (i :: is) (⟨d, .range T x, ty, pos, aft, gd⟩ :: l) loc tmp L :=
  x_range hx ht (fun g => ⟨_, _, hp g, h g⟩) hg hd hcl hq
theorem y_next {g gm : Nat} {x : Operand} {es : Ents} {done : List Nat} {locn : ByteArray → Value → List Value} {tmpn : ByteArray → Value → List (Nat × Value)}
    (hov : (∀ j, j < es.length → j ∈ done) → EO X ops cf k is l loc' tmp' (MapIt g gm es done :: F))
    (hnx : ∀ j s u, es[j]? = some (s, u) → j ∉ done → EO X ops cf k is l (locn s u) (tmpn s u) (MapIt g gm es (j :: done) :: F))
    (hx : sv loc tmp x = some (.pointer (some ⟨g, 0, none⟩)) := by rfl) (ht : Take (MapIt g gm es done) L F := by exact take_)
    (hp : Pt loc tmp d (.tuple #[.bool false]) loc' tmp' := by exact pt_) (hp' : ∀ s u, Pt loc tmp d (.tuple #[.bool true, .string s, u]) (locn s u) (tmpn s u) := by intro s u; first | exact Pt.tmp rfl | exact Pt.none | exact Pt.loc (by repeat constructor))
    (hg : gdv ops loc tmp gd = some true := by rfl) (hd : dOK X.n d = true := by rfl) (hcl : cf i = .any := by rfl) (hq : X.q = false := by rfl) : EO X ops cf k (i :: is) (⟨d, .next x false, ty, pos, aft, gd⟩ :: l) loc tmp L :=
  x_next hx ht (fun h => ⟨_, _, hp, hov h⟩) (fun j s u h1 h2 => ⟨_, _, hp' s u, hnx j s u h1 h2⟩) hg hd hcl hq
/-! ### calls -/
theorem y_callD {c : Operand} {xs : List Operand} {tys : Array TypeId} {f : Nat} {first caps ags : List Value} {La Lb : List HP} {v : Value} [Body X.P f]
    (hc : sv loc tmp c = some (.func (.func f) first.toArray caps.toArray)) (ha : svs loc tmp xs = some ags) (hf : Fd X.P f (first ++ ags ++ caps).toArray La v Lb) (h : EO X ops cf k is l loc' tmp' N)
    (hs : Subs La L F := by exact sub_) (hN : App Lb F N := by first | ((repeat (first | exact App.nil | apply App.cons)) <;> fail) | fail) (hp : Pt loc tmp d v loc' tmp' := by exact pt_)
    (hg : gdv ops loc tmp gd = some true := by rfl) (hd : dOK X.n d = true := by rfl) (hcl : cf i = .any := by rfl) (hq : X.q = false := by rfl) :
    EO X ops cf k (i :: is) (⟨d, .call ⟨.value c, xs.toArray, tys⟩, ty, pos, aft, gd⟩ :: l) loc tmp L :=
  x_callD hc ha hf hs hN hp h hg hd hcl hq
theorem y_callq {c : Operand} {xs : List Operand} {tys : Array TypeId} {f : Nat} {first caps ags : List Value} {La : List HP} {v : Value} [Body X.P f]
    (hc : sv loc tmp c = some (.func (.func f) first.toArray caps.toArray)) (ha : svs loc tmp xs = some ags) (hf : Qn X.P f (first ++ ags ++ caps).toArray La v) (h : EO X ops cf k is l loc' tmp' L)
    (hs : Subs La L F := by exact sub_) (hp : Pt loc tmp d v loc' tmp' := by exact pt_)
    (hg : gdv ops loc tmp gd = some true := by rfl) (hd : dOK X.n d = true := by rfl) (hcl : (cf i).reads = true := by rfl) :
    EO X ops cf k (i :: is) (⟨d, .call ⟨.value c, xs.toArray, tys⟩, ty, pos, aft, gd⟩ :: l) loc tmp L :=
  x_callq hc ha hf hs hp h hg hd hcl
variable {ι : Type} {loci : ι → List Value} {tmpi : ι → List (Nat × Value)} {Ni : ι → List HP}
theorem y_callE {PI : ι → Prop} {V : ι → Value} {LL : ι → List HP} {c : Operand} {xs : List Operand} {tys : Array TypeId} {f : Nat} {first caps ags : List Value} {La : List HP} [Body X.P f]
    (hc : sv loc tmp c = some (.func (.func f) first.toArray caps.toArray)) (ha : svs loc tmp xs = some ags) (hf : Fe X.P f (first ++ ags ++ caps).toArray La PI V LL) (h : ∀ j, PI j → EO X ops cf k is l (loci j) (tmpi j) (Ni j))
    (hs : Subs La L F := by exact sub_) (hN : ∀ i, App (LL i) F (Ni i) := by intro _; (repeat (first | exact App.nil | apply App.cons)) <;> fail)
    (hp : ∀ j, Pt loc tmp d (V j) (loci j) (tmpi j) := by intro j; first | exact Pt.tmp rfl | exact Pt.none | exact Pt.loc (by repeat constructor))
    (hg : gdv ops loc tmp gd = some true := by rfl) (hd : dOK X.n d = true := by rfl) (hcl : cf i = .any := by rfl) (hq : X.q = false := by rfl) :
    EO X ops cf k (i :: is) (⟨d, .call ⟨.value c, xs.toArray, tys⟩, ty, pos, aft, gd⟩ :: l) loc tmp L :=
  x_callE hc ha hf hs hN (fun j hj => ⟨_, _, hp j, h j hj⟩) hg hd hcl hq
theorem y_callG {c : Operand} {xs : List Operand} {tys : Array TypeId} {f : Nat} {first caps ags : List Value} {v : Value} [Body X.P f]
    (hc : sv loc tmp c = some (.func (.func f) first.toArray caps.toArray)) (ha : svs loc tmp xs = some ags) (hf : Fd X.P f (first ++ ags ++ caps).toArray [] v []) (h : EO X ops cf k is l loc' tmp' L)
    (hp : Pt loc tmp d v loc' tmp' := by exact pt_) (hg : gdv ops loc tmp gd = some true := by rfl) (hd : dOK X.n d = true := by rfl) (hcl : cf i = .gar := by rfl) (hq : X.q = false := by rfl) :
    EO X ops cf k (i :: is) (⟨d, .call ⟨.value c, xs.toArray, tys⟩, ty, pos, aft, gd⟩ :: l) loc tmp L :=
  x_gar hg hcl (fun a hrl w0 S0 w hst n => by
    have h0 : sats [] (Proofs.YtcdalfhkhifplaaGreatDoor.hp (wat w n)) (fun _ => False) := fun _ h => h
    have hcall := hf (wat w n) (fun _ => False) h0 (wat w n).drawn
    rw [wat_self] at hcall
    have e : (first ++ ags ++ caps).toArray = first.toArray ++ (xs.toArray.map a.eval) ++ caps.toArray := by simp [hrl.evs ha]
    have hrun : (execOp a.eval ⟨d, .call ⟨.value c, xs.toArray, tys⟩, ty, pos, aft, gd⟩).run X.P (wat w n) = .ok (.enter f (first ++ ags ++ caps).toArray) (wat w n) := by
      simp only [execOp, resolve, hrl.ev hc, Deferred.ofValue, Sem.run_bind, Sem.run_pure, Result.andThen_ok, invoke, run_callBody, e]
    unfold RunN
    rw [hrun]
    refine hcall.mono fun ee w' ⟨u, he, L', hR, hs'⟩ => ⟨u, he, hR.1, ?_, hs'.os, hs'.tape, hs'.output⟩
    intro g o hgo
    have hlt : g < (wat w n).heap.size := (Array.getElem?_eq_some_iff.1 hgo).1
    exact (hs'.old g hlt (fun h => h)).trans hgo) hp hd h
theorem y_callN {PI : ι → Prop} {V : ι → Value} {LL : ι → List HP} {c : Operand} {xs : List Operand} {tys : Array TypeId} {f : Nat} {first caps ags : List Value} [Body X.P f]
    (hc : sv loc tmp c = some (.func (.func f) first.toArray caps.toArray)) (ha : svs loc tmp xs = some ags) (hf : Fe X.P f (first ++ ags ++ caps).toArray [] PI V LL) (h : ∀ j, PI j → EO X ops cf k is l (loci j) (tmpi j) (Ni j))
    (hN : ∀ i, App (LL i) L (Ni i) := by intro _; (repeat (first | exact App.nil | apply App.cons)) <;> fail)
    (hp : ∀ j, Pt loc tmp d (V j) (loci j) (tmpi j) := by intro j; first | exact Pt.tmp rfl | exact Pt.none | exact Pt.loc (by repeat constructor))
    (hg : gdv ops loc tmp gd = some true := by rfl) (hd : dOK X.n d = true := by rfl) (hcl : (cf i).news = true := by rfl) (hq : X.q = false := by rfl) :
    EO X ops cf k (i :: is) (⟨d, .call ⟨.value c, xs.toArray, tys⟩, ty, pos, aft, gd⟩ :: l) loc tmp L :=
  x_callN hc ha hf (fun v L' ⟨j, hj, e1, e2⟩ => by subst e1 e2; exact ⟨_, _, hp j, (hN j).eq ▸ h j hj⟩) hg hd hcl hq
theorem Fe.some {P' : Program} {f : FuncId} {args : Array Value} {La : List HP} {e n : Nat} {vs : List Value} (hf : Fe P' f args La (fun _ : Option Addr × Nat => True) (fun i => .slice i.1 n i.2) (fun i => [Own i.1 i.2 e 1 n vs])) (hn : 0 < n) :
    Fe P' f args La (fun _ : Nat × Nat => True) (fun i => .slice (some ⟨i.1, 0, none⟩) n i.2) (fun i => [Own (some ⟨i.1, 0, none⟩) i.2 e 1 n vs]) := by
  intro w S hS
  refine (hf w S hS).mono ?_
  rintro u w' ⟨L', ⟨⟨A, c⟩, _, rfl, rfl⟩, hst⟩
  obtain ⟨S1, h1, _⟩ := hst.sat
  obtain ⟨k1, k2, k3, k4⟩ := Own.know (sats_one' h1)
  cases A with
  | none => have := k3 rfl; dsimp only at this k2; omega
  | some a =>
    obtain ⟨g, rfl⟩ := k4 a rfl
    exact ⟨_, ⟨(g, c), trivial, rfl, rfl⟩, hst⟩
variable {locs : Nat → Nat → List Value} {tmps : Nat → Nat → List (Nat × Value)}
theorem y_callS {c : Operand} {xs : List Operand} {tys : Array TypeId} {f : Nat} {first caps ags : List Value} {e n : Nat} {vs : List Value} [Body X.P f]
    (hc : sv loc tmp c = some (.func (.func f) first.toArray caps.toArray)) (ha : svs loc tmp xs = some ags)
    (hf : Fe X.P f (first ++ ags ++ caps).toArray [] (fun _ : Option Addr × Nat => True) (fun i => .slice i.1 n i.2) (fun i => [Own i.1 i.2 e 1 n vs])) (h : ∀ g c, EO X ops cf k is l (locs g c) (tmps g c) (Own (some ⟨g, 0, none⟩) c e 1 n vs :: L))
    (hn : Nat.blt 0 n = true := by rfl) (hp : ∀ g c, Pt loc tmp d (.slice (some ⟨g, 0, none⟩) n c) (locs g c) (tmps g c) := by intro _ _; first | exact Pt.tmp rfl | exact Pt.none | exact Pt.loc (by repeat constructor))
    (hg : gdv ops loc tmp gd = some true := by rfl) (hd : dOK X.n d = true := by rfl) (hcl : (cf i).news = true := by rfl) (hq : X.q = false := by rfl) :
    EO X ops cf k (i :: is) (⟨d, .call ⟨.value c, xs.toArray, tys⟩, ty, pos, aft, gd⟩ :: l) loc tmp L :=
  x_callN hc ha (Fe.some hf (by simpa [Nat.blt_eq] using hn)) (fun v L' ⟨j, hj, e1, e2⟩ => by subst e1 e2; exact ⟨_, _, hp j.1 j.2, h j.1 j.2⟩) hg hd hcl hq
theorem y_ret (ts : List Nat) {vs : List Value} (hv : svs loc tmp (ts.map Operand.tmp) = some vs) (h : X.R (packV vs) M) (hts : X.fn.results = (ts.map ResultVar.tmp).toArray := by rfl) (hs : Subs M L F := by exact sub_) : E X (.code .ret :: k) loc tmp L :=
  e_ret' hts hv ⟨M, F, h, hs⟩
theorem y_retC (p : Nat) {T n g o : Nat} {vs : List Value} [AggSz X.P T n] (hx : sv loc tmp (.tmp p) = some (.pointer (some ⟨g, o, none⟩))) (hc : Rows L g o n vs) (h : X.R (.agg vs.toArray) M) (hts : X.fn.results = #[.cell p T] := by rfl) (hs : Subs M L F := by exact sub_) : E X (.code .ret :: k) loc tmp L :=
  e_retC hts hx hc.row.1 hc.row.2 ⟨M, F, h, hs⟩
theorem y_end (ts : List Nat) {vs : List Value} (hv : svs loc tmp (ts.map Operand.tmp) = some vs) (h : X.R (packV vs) M) (hts : X.fn.results = (ts.map ResultVar.tmp).toArray := by rfl) (hs : Subs M L F := by exact sub_) : E X [] loc tmp L :=
  e_end' hts hv ⟨M, F, h, hs⟩
theorem y_retE (ts : List Nat) {vs : List Value} (hv : svs loc tmp (ts.map Operand.tmp) = some vs) (h : X.R (packV vs) M) (e : L = M) (hts : X.fn.results = (ts.map ResultVar.tmp).toArray := by rfl) : E X (.code .ret :: k) loc tmp L := by
  subst e; exact e_ret hts hv h
theorem y_endE (ts : List Nat) {vs : List Value} (hv : svs loc tmp (ts.map Operand.tmp) = some vs) (h : X.R (packV vs) M) (e : L = M) (hts : X.fn.results = (ts.map ResultVar.tmp).toArray := by rfl) : E X [] loc tmp L := by
  subst e; exact e_end hts hv h
theorem y_tn {P : ι → Prop} {M' : ι → List HP} (hT : Tn M P M') (h : ∀ i, P i → E X k loc tmp (Ni i)) (ht : Subs M L F := by exact sub_) (hN : ∀ i, App (M' i) F (Ni i) := by intro _; (repeat (first | exact App.nil | apply App.cons)) <;> fail) : E X k loc tmp L := E.tn hT ht hN h
theorem y_fn {q : Bool} {P' : Program} {f : FuncId} {args : Array Value} {R : Value → List HP → Prop} {P : ι → Prop} {M' : ι → List HP} (hT : Tn M P M') (h : ∀ i, P i → FnG q P' f args (Ni i) R) (ht : Subs M L F := by exact sub_) (hN : ∀ i, App (M' i) F (Ni i) := by intro _; (repeat (first | exact App.nil | apply App.cons)) <;> fail) : FnG q P' f args L R :=
  FnG.tn hT ht fun i hi => by rw [(hN i).eq]; exact h i hi
theorem y_tno {P : ι → Prop} {M' : ι → List HP} (hT : Tn M P M') (h : ∀ i, P i → EO X ops cf k is l loc tmp (Ni i)) (ht : Subs M L F := by exact sub_) (hN : ∀ i, App (M' i) F (Ni i) := by intro _; (repeat (first | exact App.nil | apply App.cons)) <;> fail) : EO X ops cf k is l loc tmp L := EO.tn hT ht hN h
end
def Tn2 {α β : Type} (M : List HP) (P : α → β → Prop) (M' : α → β → List HP) : Prop := Tn M (fun i : α × β => P i.1 i.2) (fun i => M' i.1 i.2)
def Tn5 {α β γ δ ε : Type} (M : List HP) (P : α → β → γ → δ → ε → Prop) (M' : α → β → γ → δ → ε → List HP) : Prop := Tn M (fun i : α × β × γ × δ × ε => P i.1 i.2.1 i.2.2.1 i.2.2.2.1 i.2.2.2.2) (fun i => M' i.1 i.2.1 i.2.2.1 i.2.2.2.1 i.2.2.2.2)
section
variable {X : Fx} {ops : Array Oper} {cf : Nat → Cls} {k : List Item} {is : List Nat} {l : List Oper} {loc : List Value} {tmp : List (Nat × Value)} {L F M : List HP} {α β γ δ ε : Type}
theorem y_tn2 {P : α → β → Prop} {M' Ni : α → β → List HP} (hT : Tn2 M P M') (h : ∀ a b, P a b → E X k loc tmp (Ni a b)) (ht : Subs M L F := by exact sub_) (hN : ∀ a b, App (M' a b) F (Ni a b) := by intro _ _; first | ((repeat (first | exact App.nil | apply App.cons)) <;> fail) | fail) : E X k loc tmp L := E.tn hT ht (N := fun i => Ni i.1 i.2) (fun i => hN i.1 i.2) fun i hp => h i.1 i.2 hp
theorem y_tno2 {P : α → β → Prop} {M' Ni : α → β → List HP} (hT : Tn2 M P M') (h : ∀ a b, P a b → EO X ops cf k is l loc tmp (Ni a b)) (ht : Subs M L F := by exact sub_) (hN : ∀ a b, App (M' a b) F (Ni a b) := by intro _ _; first | ((repeat (first | exact App.nil | apply App.cons)) <;> fail) | fail) : EO X ops cf k is l loc tmp L := EO.tn hT ht (N := fun i => Ni i.1 i.2) (fun i => hN i.1 i.2) fun i hp => h i.1 i.2 hp
theorem y_fn2 {q : Bool} {P' : Program} {f : FuncId} {args : Array Value} {R : Value → List HP → Prop} {P : α → β → Prop} {M' Ni : α → β → List HP} (hT : Tn2 M P M') (h : ∀ a b, P a b → FnG q P' f args (Ni a b) R) (ht : Subs M L F := by exact sub_) (hN : ∀ a b, App (M' a b) F (Ni a b) := by intro _ _; first | ((repeat (first | exact App.nil | apply App.cons)) <;> fail) | fail) : FnG q P' f args L R := y_fn (Ni := fun i => Ni i.1 i.2) hT (fun i hi => h i.1 i.2 hi) ht (fun i => hN i.1 i.2)
theorem y_tn5 {P : α → β → γ → δ → ε → Prop} {M' Ni : α → β → γ → δ → ε → List HP} (hT : Tn5 M P M') (h : ∀ a b c d e, P a b c d e → E X k loc tmp (Ni a b c d e)) (ht : Subs M L F := by exact sub_) (hN : ∀ a b c d e, App (M' a b c d e) F (Ni a b c d e) := by intro _ _ _ _ _; first | ((repeat (first | exact App.nil | apply App.cons)) <;> fail) | fail) : E X k loc tmp L := E.tn hT ht (N := fun i => Ni i.1 i.2.1 i.2.2.1 i.2.2.2.1 i.2.2.2.2) (fun i => hN i.1 i.2.1 i.2.2.1 i.2.2.2.1 i.2.2.2.2) fun i hp => h i.1 i.2.1 i.2.2.1 i.2.2.2.1 i.2.2.2.2 hp
theorem y_tno5 {P : α → β → γ → δ → ε → Prop} {M' Ni : α → β → γ → δ → ε → List HP} (hT : Tn5 M P M') (h : ∀ a b c d e, P a b c d e → EO X ops cf k is l loc tmp (Ni a b c d e)) (ht : Subs M L F := by exact sub_) (hN : ∀ a b c d e, App (M' a b c d e) F (Ni a b c d e) := by intro _ _ _ _ _; first | ((repeat (first | exact App.nil | apply App.cons)) <;> fail) | fail) : EO X ops cf k is l loc tmp L := EO.tn hT ht (N := fun i => Ni i.1 i.2.1 i.2.2.1 i.2.2.2.1 i.2.2.2.2) (fun i => hN i.1 i.2.1 i.2.2.1 i.2.2.2.1 i.2.2.2.2) fun i hp => h i.1 i.2.1 i.2.2.1 i.2.2.2.1 i.2.2.2.2 hp
theorem y_fn5 {q : Bool} {P' : Program} {f : FuncId} {args : Array Value} {R : Value → List HP → Prop} {P : α → β → γ → δ → ε → Prop} {M' Ni : α → β → γ → δ → ε → List HP} (hT : Tn5 M P M') (h : ∀ a b c d e, P a b c d e → FnG q P' f args (Ni a b c d e) R) (ht : Subs M L F := by exact sub_) (hN : ∀ a b c d e, App (M' a b c d e) F (Ni a b c d e) := by intro _ _ _ _ _; first | ((repeat (first | exact App.nil | apply App.cons)) <;> fail) | fail) : FnG q P' f args L R := y_fn (Ni := fun i => Ni i.1 i.2.1 i.2.2.1 i.2.2.2.1 i.2.2.2.2) hT (fun i hi => h i.1 i.2.1 i.2.2.1 i.2.2.2.1 i.2.2.2.2 hi) ht (fun i => hN i.1 i.2.1 i.2.2.1 i.2.2.2.1 i.2.2.2.2)
end
section
variable {P : Program} {f : FuncId} {args : Array Value} {L La Lb F N M M' G : List HP} {v : Value}
theorem Fd.frame (hf : Fd P f args La v Lb) (hs : Subs La L F := by exact sub_) (hN : App Lb F N := by first | ((repeat (first | exact App.nil | apply App.cons)) <;> fail) | fail) : Fd P f args L v N := by
  intro w S hS
  obtain ⟨S1, h1, hF⟩ := ((St.start (q := false) hS).perm hs.perm).frame
  refine (hf w S1 h1).mono ?_
  rintro u w' ⟨L', ⟨rfl, rfl⟩, hst⟩
  exact ⟨N, ⟨rfl, rfl⟩, hN.eq ▸ hF _ _ _ hst⟩
theorem Fd.close {A : HP} (h : Fd P f args L v N) (hT : Tn M (fun _ : Unit => True) (fun _ => [A])) (ht : Subs M N F := by exact sub_) (hs : Subs M' (A :: F) G := by exact sub_) : Fd P f args L v M' := by
  intro w S hS
  refine (h w S hS).mono ?_
  rintro u w' ⟨L', ⟨rfl, rfl⟩, hst⟩
  obtain ⟨_, _, h2⟩ := hst.tn hT ht
  exact ⟨M', ⟨rfl, rfl⟩, h2.some hs⟩
end
end Go.Proofs.YtcdalfhkhifplaaGreatDoor
namespace Go.Proofs.YtcdalfhkhifplaaGreatDoor
open Go
set_option maxRecDepth 100000
attribute [local irreducible] E EO
theorem block_fn (g : Nat) (f0 f1 f2 f3 f5 f6 f7 f8 f9 f10 f11 : Value) (p : Nat) (h1 : p ≤ 1000000000000) :
    Qn Tryz.prog 52 #[.pointer (some ⟨g, 0, none⟩)] [Cells g 112 [f0, f1, f2, f3, .int .i64 p, f5, f6, f7, f8, f9, f10, f11]] (.int .u32 ((p / 4096 : Nat) : Int)) := by
  refine fn_of_E' (args := [_]) 3 _ [_, undef, undef] Tryz.func52 rfl Tryz.ntmps52 ?_
  repeat (first | refine walk1 ?_ | refine y_alloc (fun g => ?_) | refine y_boxA rfl (fun g => ?_) | refine y_make rfl rfl (fun g => ?_) | refine y_build1 rfl (fun g => ?_) | refine y_app1 rfl rfl (fun A' c' => ?_) | fail)
  refine e_ret (ts := [2]) (vs := [_]) rfl rfl ?_
  rfl
theorem lay_len (B : List UInt8) (p : Nat) (bs : List UInt8) : (lay B p bs).length = max B.length (p + bs.length) := by
  simp [lay]; omega
theorem lay_grown {B : List UInt8} {p : Nat} {bs : List UInt8} (h : B.length < p + bs.length) : lay B p bs = (B ++ List.replicate (p + bs.length - B.length) 0).take p ++ bs ++ (B ++ List.replicate (p + bs.length - B.length) 0).drop (p + bs.length) := rfl
theorem lay_in {B : List UInt8} {p : Nat} {bs : List UInt8} (h : p + bs.length ≤ B.length) : lay B p bs = B.take p ++ bs ++ B.drop (p + bs.length) := by
  unfold lay
  rw [show p + bs.length - B.length = 0 by omega]; simp
theorem put_fn (dk : Nat) (A : Option Addr) (c p : Nat) (B bs : List UInt8) (X : Option Addr) (m cx : Nat) (M : HP) (hr : Rd [M] X m 1 (enc bs)) (hm : bs.length = m) (hpos : 0 < m) (hp : p + m ≤ 1000000000000) (hB : B.length ≤ 1000000000000) :
    Fn Tryz.prog 69 #[.pointer (some ⟨dk, 0, none⟩), .slice X m cx]
      [Cells dk 79 [.slice A B.length c, .int .i64 (p : Int)], Own A c 5 1 B.length (enc B), M] fun v L =>
      v = .tuple #[] ∧ ∃ A' c', L = [Cells dk 79 [.slice A' (lay B p bs).length c', .int .i64 ((p + m : Nat) : Int)], Own A' c' 5 1 (lay B p bs).length (enc (lay B p bs)), M] := by
  refine fn_of_E' (args := [_, _]) 5 _ [_, _, undef, undef, undef] Tryz.func69 rfl Tryz.ntmps69 ?_
  repeat (first | refine walk1 ?_ | refine y_alloc (fun g => ?_) | refine y_boxA rfl (fun g => ?_) | refine y_make rfl rfl (fun g => ?_) | refine y_build1 rfl (fun g => ?_) | refine y_app1 rfl rfl (fun A' c' => ?_) | fail)
  refine e_join (ι := Option Addr × Nat × List UInt8) (fun _ => [.pointer (some ⟨dk, 0, none⟩), .slice X m cx, undef, undef, .int .i64 (p + m)])
    (fun i => [Cells dk 79 [.slice i.1 i.2.2.length i.2.1, .int .i64 (p : Int)], Own i.1 i.2.1 5 1 i.2.2.length (enc i.2.2), M])
    (fun i => p + m ≤ i.2.2.length ∧ i.2.2.length ≤ 2000000000000 ∧ lay B p bs = i.2.2.take p ++ bs ++ i.2.2.drop (p + m)) rfl (fun i hi => ?_) (fun h rest => ?_) (fun h rest => ?_)
  · obtain ⟨A1, c1, B1⟩ := i
    obtain ⟨h1, h2, h3⟩ := hi
    dsimp only at h1 h2 h3 ⊢
    refine E.know (.there .here) (fun _ _ => Own.know) fun hk => ?_
    obtain ⟨k1, k2, k3, k4⟩ := hk
    cases A1 with
    | none => have := k3 rfl; omega
    | some a =>
      obtain ⟨g, rfl⟩ := k4 a rfl
      repeat (first | refine walk1 ?_ | refine y_alloc (fun g => ?_) | refine y_boxA rfl (fun g => ?_) | refine y_make rfl rfl (fun g => ?_) | refine y_build1 rfl (fun g => ?_) | refine y_app1 rfl rfl (fun A' c' => ?_) | fail)
      have hel : (enc bs).length = m := by rw [enc_len, hm]
      refine x_copy (news := enc bs) rfl rfl ((hr.there _).there _) enc_one (.there (.own (by rw [List.length_take, hel, enc_len]; omega))) pt_ ?_
      repeat (first | refine walk1 ?_ | refine y_alloc (fun g => ?_) | refine y_boxA rfl (fun g => ?_) | refine y_make rfl rfl (fun g => ?_) | refine y_build1 rfl (fun g => ?_) | refine y_app1 rfl rfl (fun A' c' => ?_) | fail)
      refine e_end (ts := []) (vs := []) rfl rfl ?_
      have e1 : (enc bs).take (B1.length - p) = enc bs := List.take_of_length_le (by omega)
      have e2 : (lay B p bs).length = B1.length := by rw [h3]; simp; omega
      refine ⟨rfl, some ⟨g, 0, none⟩, c1, ?_⟩
      rw [e1, e2, h3, enc_app, enc_app, enc_take, enc_drop]
      simp [ovw, hel]
  · have h := of_decide_eq_true h
    refine e_draw ?_
    refine walko ?_
    refine x_appZ (m := p + m - B.length) rfl rfl (by omega) (.there .here) rfl (by simp [maxLen]; omega) (by omega) fun A' c' => ⟨_, _, pt_, EO.at_ (.there .here) ?_⟩
    refine walko ?_
    refine (rest (A', c', B ++ List.replicate (p + m - B.length) 0) ⟨by simp; omega, by simp; omega, by rw [lay_grown (by omega), hm]⟩).to rfl ?_
    simp [enc_app, enc_zeros]
  · have h := of_decide_eq_false h
    refine e_skip ?_
    exact (rest (A, c, B) ⟨by simp; omega, by simp; omega, by rw [lay_in (by omega), hm]⟩).to rfl rfl
def DiskP (g p : Nat) (B : List UInt8) : HP := .ex fun i : Option Addr × Nat => .fact (B.length ≤ 1000000000000) <| .star [Cells g 79 [.slice i.1 B.length i.2, .int .i64 (p : Int)], Own i.1 i.2 5 1 B.length (enc B)]
theorem DiskP.close {g p : Nat} {B : List UInt8} (A : Option Addr) (c : Nat) (hB : B.length ≤ 1000000000000) : Tn [Cells g 79 [.slice A B.length c, .int .i64 (p : Int)], Own A c 5 1 B.length (enc B)] (fun _ : Unit => True) (fun _ => [DiskP g p B]) := Tn.inexs (ι := Option Addr × Nat) (A := fun i => [Cells g 79 [.slice i.1 B.length i.2, .int .i64 (p : Int)], Own i.1 i.2 5 1 B.length (enc B)]) (p := fun _ => B.length ≤ 1000000000000) (A, c) hB
theorem DiskP.open {g p : Nat} {B : List UInt8} : Tn [DiskP g p B] (fun _ : Option Addr × Nat => B.length ≤ 1000000000000) (fun i => [Cells g 79 [.slice i.1 B.length i.2, .int .i64 (p : Int)], Own i.1 i.2 5 1 B.length (enc B)]) := Tn.exs
theorem put_fn' (dk p : Nat) (B bs : List UInt8) (X : Option Addr) (m cx : Nat) (M : HP) (hr : Rd [M] X m 1 (enc bs)) (hm : bs.length = m) (hpos : 0 < m) (hp : p + m ≤ 1000000000000) :
    Fd Tryz.prog 69 #[.pointer (some ⟨dk, 0, none⟩), .slice X m cx] [DiskP dk p B, M] (.tuple #[]) [DiskP dk (p + m) (lay B p bs), M] := by
  refine FnG.tn DiskP.open sub_ fun i hB => ?_
  intro w S hS
  refine (put_fn dk i.1 i.2 p B bs X m cx M hr hm hpos hp hB w S hS).mono ?_
  rintro v w' ⟨L', ⟨rfl, A', c', rfl⟩, hst⟩
  have hl : (lay B p bs).length ≤ 1000000000000 := by rw [lay_len, hm]; omega
  obtain ⟨_, _, hst'⟩ := hst.tn (DiskP.close A' c' hl) sub_
  exact ⟨_, ⟨rfl, rfl⟩, hst'⟩
theorem write_fn (wg dg p : Nat) (B bs : List UInt8) (X : Option Addr) (m cx mx : Nat) (M : HP) (f1 f2 f3 f5 f6 f8 f9 f11 : Value) (hr : Rd [M] X m 1 (enc bs)) (hm : bs.length = m) (hpos : 0 < m) (hp : p + m ≤ mx) (hmx : mx ≤ 1000000000000) :
    Fd Tryz.prog 50 #[.pointer (some ⟨wg, 0, none⟩), .slice X m cx]
      [Cells wg 112 [.pointer (some ⟨dg, 0, none⟩), f1, f2, f3, .int .i64 (p : Int), f5, f6, .nilIface, f8, f9, .int .i64 (mx : Int), f11], DiskP dg p B, M] (.tuple #[.int .i64 m, .nilIface])
      [Cells wg 112 [.pointer (some ⟨dg, 0, none⟩), f1, f2, f3, .int .i64 ((p + m : Nat) : Int), f5, f6, .nilIface, f8, f9, .int .i64 (mx : Int), f11], DiskP dg (p + m) (lay B p bs), M] := by
  refine fn_of_E' (args := [_, _]) 6 _ [_, _, undef, undef, undef, undef] Tryz.func50 rfl Tryz.ntmps50 ?_
  repeat (first | refine walk1 ?_ | refine y_alloc (fun g => ?_) | refine y_boxA rfl (fun g => ?_) | refine y_make rfl rfl (fun g => ?_) | refine y_build1 rfl (fun g => ?_) | refine y_app1 rfl rfl (fun A' c' => ?_) | fail)
  refine x_callD rfl rfl (put_fn' dg p B bs X m cx M hr hm hpos (by omega)) sub_ (by first | ((repeat (first | exact App.nil | apply App.cons)) <;> fail) | fail) pt_ ?_
  repeat (first | refine walk1 ?_ | refine y_alloc (fun g => ?_) | refine y_boxA rfl (fun g => ?_) | refine y_make rfl rfl (fun g => ?_) | refine y_build1 rfl (fun g => ?_) | refine y_app1 rfl rfl (fun A' c' => ?_) | fail)
  exact e_ret' (ts := [4, 5]) (vs := [_, _]) rfl rfl ⟨_, _, ⟨rfl, rfl⟩, sub_⟩
end Go.Proofs.YtcdalfhkhifplaaGreatDoor
namespace Go.Proofs.YtcdalfhkhifplaaGreatDoor
open Go
set_option maxRecDepth 100000
attribute [local irreducible] E EO
theorem Rd.zeros {g c e n : Nat} {L : List HP} (h : n ≤ c) : Rd (Own (some ⟨g, 0, none⟩) c e 1 n (List.replicate n (.int .u8 0)) :: L) (some ⟨g, 0, none⟩) n 1 (enc (List.replicate n 0)) := by
  rw [enc_zeros]
  exact ⟨by simp, .inr ⟨g, 0, rfl, CellRow.own⟩⟩
theorem zero_fn (wg dg p n : Nat) (B : List UInt8) (mx : Nat) (f1 f2 f3 f5 f6 f8 f9 f11 : Value) (hpos : 0 < n) (hp : p + n ≤ mx) (hmx : mx ≤ 1000000000000) :
    Fd Tryz.prog 68 #[.pointer (some ⟨wg, 0, none⟩), .int .i64 (n : Int)]
      [Cells wg 112 [.pointer (some ⟨dg, 0, none⟩), f1, f2, f3, .int .i64 (p : Int), f5, f6, .nilIface, f8, f9, .int .i64 (mx : Int), f11], DiskP dg p B] (.tuple #[.int .i64 n, .nilIface])
      [Cells wg 112 [.pointer (some ⟨dg, 0, none⟩), f1, f2, f3, .int .i64 ((p + n : Nat) : Int), f5, f6, .nilIface, f8, f9, .int .i64 (mx : Int), f11], DiskP dg (p + n) (lay B p (List.replicate n 0))] := by
  refine fn_of_E' (args := [_, _]) 6 _ [_, _, undef, undef, undef, undef] Tryz.func68 rfl Tryz.ntmps68 ?_
  repeat (first | refine walk1 ?_ | refine y_alloc (fun g => ?_) | refine y_boxA rfl (fun g => ?_) | refine y_make rfl rfl (fun g => ?_) | refine y_build1 rfl (fun g => ?_) | refine y_app1 rfl rfl (fun A' c' => ?_) | fail)
  refine x_callD rfl rfl (put_fn' dg p B (List.replicate n 0) (some ⟨g, 0, none⟩) n n _ (Rd.zeros (Nat.le_refl _)) (by simp) hpos (by omega)) sub_ (by first | ((repeat (first | exact App.nil | apply App.cons)) <;> fail) | fail) pt_ ?_
  repeat (first | refine walk1 ?_ | refine y_alloc (fun g => ?_) | refine y_boxA rfl (fun g => ?_) | refine y_make rfl rfl (fun g => ?_) | refine y_build1 rfl (fun g => ?_) | refine y_app1 rfl rfl (fun A' c' => ?_) | fail)
  exact e_ret' (ts := [4, 5]) (vs := [_, _]) rfl rfl ⟨_, _, ⟨rfl, rfl⟩, sub_⟩
theorem seekBlock_fn (wg dg p b : Nat) (B : List UInt8) (f1 f2 f3 f4 f5 f6 f8 f9 f10 f11 : Value) (hb : b ≤ 4000000000) :
    Fd Tryz.prog 53 #[.pointer (some ⟨wg, 0, none⟩), .int .u32 (b : Int)]
      [Cells wg 112 [.pointer (some ⟨dg, 0, none⟩), f1, f2, f3, f4, f5, f6, .nilIface, f8, f9, f10, f11], DiskP dg p B] (.tuple #[])
      [Cells wg 112 [.pointer (some ⟨dg, 0, none⟩), f1, f2, f3, .int .i64 ((b * 4096 : Nat) : Int), f5, f6, .nilIface, f8, f9, f10, f11], DiskP dg (b * 4096) B] := by
  refine fn_of_E' (args := [_, _]) 4 _ [_, _, undef, undef] Tryz.func53 rfl Tryz.ntmps53 ?_
  refine E.tn DiskP.open sub_ (fun _ => by (repeat (first | exact App.nil | apply App.cons)) <;> fail) fun i hB => ?_
  repeat (first | refine walk1 ?_ | refine y_alloc (fun g => ?_) | refine y_boxA rfl (fun g => ?_) | refine y_make rfl rfl (fun g => ?_) | refine y_build1 rfl (fun g => ?_) | refine y_app1 rfl rfl (fun A' c' => ?_) | fail)
  refine E.tn (DiskP.close _ _ hB) sub_ (fun _ => by (repeat (first | exact App.nil | apply App.cons)) <;> fail) fun _ _ => ?_
  exact e_end' (ts := []) (vs := []) rfl rfl ⟨_, _, ⟨rfl, rfl⟩, sub_⟩
theorem startInode_fn (wg : Nat) (f0 f1 f2 f4 f5 f6 f7 f8 f9 f10 f11 : Value) (name : ByteArray) (a : Option Addr) (n : Nat) :
    Fd Tryz.prog 48 #[.pointer (some ⟨wg, 0, none⟩), .string name, .pointer a, .int .i64 (n : Int)]
      [Cells wg 112 [f0, f1, f2, .pointer none, f4, f5, f6, f7, f8, f9, f10, f11]] (.tuple #[])
      [Cells wg 112 [f0, f1, .string name, .pointer a, f4, .int .i64 0, .int .i64 (n : Int), f7, f8, f9, f10, f11]] := by
  refine fn_of_E' (args := [_, _, _, _]) 8 _ [_, _, _, _, undef, undef, undef, undef] Tryz.func48 rfl Tryz.ntmps48 ?_
  repeat (first | refine walk1 ?_ | refine y_alloc (fun g => ?_) | refine y_boxA rfl (fun g => ?_) | refine y_make rfl rfl (fun g => ?_) | refine y_build1 rfl (fun g => ?_) | refine y_app1 rfl rfl (fun A' c' => ?_) | fail)
  exact e_end' (ts := []) (vs := []) rfl rfl ⟨_, _, ⟨rfl, rfl⟩, sub_⟩
end Go.Proofs.YtcdalfhkhifplaaGreatDoor
