/-
  The library's contracts that the shelf has proved once, at this program. (The layings are the print of the shelf's own program, its numbers turned to names by genql.py.)
-/
import Derived.Test.YtnfdcfagdidmhaaGreatDoorQA
import Derived.Test.YtnfdcfagdidmhaaGreatDoorChecked
import Derived.Shelf.Strings.Repeat
import Derived.Shelf.Strings.Builder1
import Derived.Shelf.Strings.Count
import Derived.Shelf.Strconv.Itoa3
namespace Go.Proofs.YtnfdcfagdidmhaaGreatDoor
open Go.Shelf Go.RowKit
set_option linter.unusedVariables false

def lays105_ren : Go.Shelf.Ren := ⟨fun | 105 => 84 | 212 => 109 | 99 => 110 | 165 => 111 | 167 => 86 | 166 => 83 | 170 => 112 | 169 => 39 | 263 => 119 | 264 => 120 | 206 => 121 | 240 => 108 | 241 => 122 | 276 => 118 | 277 => 128 | n => n, fun | 9 => 9 | 3 => 3 | 4 => 4 | 20 => 20 | 0 => 0 | 46 => 136 | 109 => 137 | 5 => 5 | 72 => 76 | 76 => 115 | 51 => 143 | 146 => 144 | 53 => 146 | 148 => 147 | 70 => 73 | 37 => 74 | 75 => 114 | 127 => 120 | 164 => 141 | 80 => 78 | n => n, fun | n => n⟩
set_option maxRecDepth 100000 in
theorem lays105 : Go.Proofs.Lays.n105 Tryz.prog lays105_ren := {
  mixed := by kernel_rfl
  f99 := Tryz.func110.trans (congrArg some (by kernel_rfl))
  f105 := Tryz.func84.trans (congrArg some (by kernel_rfl))
  f165 := Tryz.func111.trans (congrArg some (by kernel_rfl))
  f166 := Tryz.func83.trans (congrArg some (by kernel_rfl))
  f169 := Tryz.func39.trans (congrArg some (by kernel_rfl))
  f170 := Tryz.func112.trans (congrArg some (by kernel_rfl))
  f206 := Tryz.func121.trans (congrArg some (by kernel_rfl))
  f212 := Tryz.func109.trans (congrArg some (by kernel_rfl))
  f240 := Tryz.func108.trans (congrArg some (by kernel_rfl))
  f241 := Tryz.func122.trans (congrArg some (by kernel_rfl))
  f263 := Tryz.func119.trans (congrArg some (by kernel_rfl))
  f264 := Tryz.func120.trans (congrArg some (by kernel_rfl))
  f276 := Tryz.func118.trans (congrArg some (by kernel_rfl))
  f277 := Tryz.func128.trans (congrArg some (by kernel_rfl))
  t0 := Tryz.underlying0
  a0 := Tryz.isAgg0
  z0 := Tryz.sizeOf0
  v0 := Tryz.zeroValue0
  t3 := Tryz.underlying3
  a3 := Tryz.isAgg3
  z3 := Tryz.sizeOf3
  v3 := Tryz.zeroValue3
  t4 := Tryz.underlying4
  a4 := Tryz.isAgg4
  z4 := Tryz.sizeOf4
  v4 := Tryz.zeroValue4
  t5 := Tryz.underlying5
  a5 := Tryz.isAgg5
  z5 := Tryz.sizeOf5
  v5 := Tryz.zeroValue5
  t9 := Tryz.underlying9
  a9 := Tryz.isAgg9
  z9 := Tryz.sizeOf9
  v9 := Tryz.zeroValue9
  t20 := Tryz.underlying20
  a20 := Tryz.isAgg20
  z20 := Tryz.sizeOf20
  v20 := Tryz.zeroValue20
  t37 := Tryz.underlying74
  a37 := Tryz.isAgg74
  z37 := Tryz.sizeOf74
  v37 := Tryz.zeroValue74
  t46 := Tryz.underlying136
  a46 := Tryz.isAgg136
  z46 := Tryz.sizeOf136
  v46 := Tryz.zeroValue136
  t51 := Tryz.underlying143
  a51 := Tryz.isAgg143
  z51 := Tryz.sizeOf143
  v51 := Tryz.zeroValue143
  t53 := Tryz.underlying146
  a53 := Tryz.isAgg146
  z53 := Tryz.sizeOf146
  v53 := Tryz.zeroValue146
  t70 := Tryz.underlying73
  a70 := Tryz.isAgg73
  z70 := Tryz.sizeOf73
  v70 := Tryz.zeroValue73
  t72 := Tryz.underlying76
  a72 := Tryz.isAgg76
  z72 := Tryz.sizeOf76
  v72 := Tryz.zeroValue76
  t75 := Tryz.underlying114
  a75 := Tryz.isAgg114
  z75 := Tryz.sizeOf114
  v75 := Tryz.zeroValue114
  t76 := Tryz.underlying115
  a76 := Tryz.isAgg115
  z76 := Tryz.sizeOf115
  v76 := Tryz.zeroValue115
  t109 := Tryz.underlying137
  a109 := Tryz.isAgg137
  z109 := Tryz.sizeOf137
  v109 := Tryz.zeroValue137
  t127 := Tryz.underlying120
  a127 := Tryz.isAgg120
  z127 := Tryz.sizeOf120
  v127 := Tryz.zeroValue120
  t146 := Tryz.underlying144
  a146 := Tryz.isAgg144
  z146 := Tryz.sizeOf144
  v146 := Tryz.zeroValue144
  t148 := Tryz.underlying147
  a148 := Tryz.isAgg147
  z148 := Tryz.sizeOf147
  v148 := Tryz.zeroValue147
  t164 := Tryz.underlying141
  a164 := Tryz.isAgg141
  z164 := Tryz.sizeOf141
  v164 := Tryz.zeroValue141 }
def lays138_ren : Go.Shelf.Ren := ⟨fun | 138 => 201 | 195 => 202 | 218 => 203 | 143 => 204 | 219 => 205 | 217 => 206 | 225 => 207 | 224 => 208 | 267 => 209 | 266 => 210 | 314 => 211 | n => n, fun | 9 => 9 | 3 => 3 | 4 => 4 | 5 => 5 | 0 => 0 | 46 => 136 | 146 => 144 | 51 => 143 | n => n, fun | 1 => 0 | n => n⟩
set_option maxRecDepth 100000 in
theorem lays138 : Go.Proofs.Lays.n138 Tryz.prog lays138_ren := {
  mixed := by kernel_rfl
  f138 := Tryz.func201.trans (congrArg some (by kernel_rfl))
  f143 := Tryz.func204.trans (congrArg some (by kernel_rfl))
  f195 := Tryz.func202.trans (congrArg some (by kernel_rfl))
  f217 := Tryz.func206.trans (congrArg some (by kernel_rfl))
  f218 := Tryz.func203.trans (congrArg some (by kernel_rfl))
  f219 := Tryz.func205.trans (congrArg some (by kernel_rfl))
  f224 := Tryz.func208.trans (congrArg some (by kernel_rfl))
  f225 := Tryz.func207.trans (congrArg some (by kernel_rfl))
  f266 := Tryz.func210.trans (congrArg some (by kernel_rfl))
  f267 := Tryz.func209.trans (congrArg some (by kernel_rfl))
  f314 := Tryz.func211.trans (congrArg some (by kernel_rfl))
  t0 := Tryz.underlying0
  a0 := Tryz.isAgg0
  z0 := Tryz.sizeOf0
  v0 := Tryz.zeroValue0
  t3 := Tryz.underlying3
  a3 := Tryz.isAgg3
  z3 := Tryz.sizeOf3
  v3 := Tryz.zeroValue3
  t4 := Tryz.underlying4
  a4 := Tryz.isAgg4
  z4 := Tryz.sizeOf4
  v4 := Tryz.zeroValue4
  t5 := Tryz.underlying5
  a5 := Tryz.isAgg5
  z5 := Tryz.sizeOf5
  v5 := Tryz.zeroValue5
  t9 := Tryz.underlying9
  a9 := Tryz.isAgg9
  z9 := Tryz.sizeOf9
  v9 := Tryz.zeroValue9
  t46 := Tryz.underlying136
  a46 := Tryz.isAgg136
  z46 := Tryz.sizeOf136
  v46 := Tryz.zeroValue136
  t51 := Tryz.underlying143
  a51 := Tryz.isAgg143
  z51 := Tryz.sizeOf143
  v51 := Tryz.zeroValue143
  t146 := Tryz.underlying144
  a146 := Tryz.isAgg144
  z146 := Tryz.sizeOf144
  v146 := Tryz.zeroValue144
  g1 := by kernel_rfl }
def lays171_ren : Go.Shelf.Ren := ⟨fun | 171 => 88 | 243 => 114 | 246 => 125 | 283 => 131 | 284 => 132 | 285 => 133 | 286 => 134 | 129 => 139 | 317 => 138 | 318 => 140 | 319 => 141 | 320 => 142 | 337 => 149 | 338 => 150 | n => n, fun | 3 => 3 | 9 => 9 | 2 => 2 | 4 => 4 | 171 => 171 | 0 => 0 | 53 => 146 | 37 => 74 | 5 => 5 | 173 => 174 | 212 => 178 | 51 => 143 | 20 => 20 | 213 => 179 | 46 => 136 | 232 => 211 | 233 => 212 | n => n, fun | 17 => 1 | 18 => 2 | 19 => 3 | n => n⟩
set_option maxRecDepth 100000 in
theorem lays171 : Go.Proofs.Lays.n171 Tryz.prog lays171_ren := {
  mixed := by kernel_rfl
  f129 := Tryz.func139.trans (congrArg some (by kernel_rfl))
  f171 := Tryz.func88.trans (congrArg some (by kernel_rfl))
  f243 := Tryz.func114.trans (congrArg some (by kernel_rfl))
  f246 := Tryz.func125.trans (congrArg some (by kernel_rfl))
  f283 := Tryz.func131.trans (congrArg some (by kernel_rfl))
  f284 := Tryz.func132.trans (congrArg some (by kernel_rfl))
  f285 := Tryz.func133.trans (congrArg some (by kernel_rfl))
  f286 := Tryz.func134.trans (congrArg some (by kernel_rfl))
  f317 := Tryz.func138.trans (congrArg some (by kernel_rfl))
  f318 := Tryz.func140.trans (congrArg some (by kernel_rfl))
  f319 := Tryz.func141.trans (congrArg some (by kernel_rfl))
  f320 := Tryz.func142.trans (congrArg some (by kernel_rfl))
  f337 := Tryz.func149.trans (congrArg some (by kernel_rfl))
  f338 := Tryz.func150.trans (congrArg some (by kernel_rfl))
  t0 := Tryz.underlying0
  a0 := Tryz.isAgg0
  z0 := Tryz.sizeOf0
  v0 := Tryz.zeroValue0
  t2 := Tryz.underlying2
  a2 := Tryz.isAgg2
  z2 := Tryz.sizeOf2
  v2 := Tryz.zeroValue2
  t3 := Tryz.underlying3
  a3 := Tryz.isAgg3
  z3 := Tryz.sizeOf3
  v3 := Tryz.zeroValue3
  t4 := Tryz.underlying4
  a4 := Tryz.isAgg4
  z4 := Tryz.sizeOf4
  v4 := Tryz.zeroValue4
  t5 := Tryz.underlying5
  a5 := Tryz.isAgg5
  z5 := Tryz.sizeOf5
  v5 := Tryz.zeroValue5
  t9 := Tryz.underlying9
  a9 := Tryz.isAgg9
  z9 := Tryz.sizeOf9
  v9 := Tryz.zeroValue9
  t20 := Tryz.underlying20
  a20 := Tryz.isAgg20
  z20 := Tryz.sizeOf20
  v20 := Tryz.zeroValue20
  t37 := Tryz.underlying74
  a37 := Tryz.isAgg74
  z37 := Tryz.sizeOf74
  v37 := Tryz.zeroValue74
  t46 := Tryz.underlying136
  a46 := Tryz.isAgg136
  z46 := Tryz.sizeOf136
  v46 := Tryz.zeroValue136
  t51 := Tryz.underlying143
  a51 := Tryz.isAgg143
  z51 := Tryz.sizeOf143
  v51 := Tryz.zeroValue143
  t53 := Tryz.underlying146
  a53 := Tryz.isAgg146
  z53 := Tryz.sizeOf146
  v53 := Tryz.zeroValue146
  t171 := Tryz.underlying171
  a171 := Tryz.isAgg171
  z171 := Tryz.sizeOf171
  v171 := Tryz.zeroValue171
  t173 := Tryz.underlying174
  a173 := Tryz.isAgg174
  z173 := Tryz.sizeOf174
  v173 := Tryz.zeroValue174
  t212 := Tryz.underlying178
  a212 := Tryz.isAgg178
  z212 := Tryz.sizeOf178
  v212 := Tryz.zeroValue178
  t213 := Tryz.underlying179
  a213 := Tryz.isAgg179
  z213 := Tryz.sizeOf179
  t232 := Tryz.underlying211
  a232 := Tryz.isAgg211
  z232 := Tryz.sizeOf211
  v232 := Tryz.zeroValue211
  t233 := Tryz.underlying212
  a233 := Tryz.isAgg212
  z233 := Tryz.sizeOf212
  v233 := Tryz.zeroValue212
  g17 := by kernel_rfl
  g18 := by kernel_rfl
  g19 := by kernel_rfl }
theorem laysX : Builder.Extra Tryz.prog lays105_ren := {
  sizeBuilder := by kernel_rfl
  liesBuilder := by kernel_rfl
  t5 := Tryz.underlying5
  a5 := Tryz.isAgg5
  z5 := Tryz.sizeOf5
  v5 := Tryz.zeroValue5
  infoByte := by kernel_rfl
  cellsByte := by kernel_rfl
  sizeByte := by kernel_rfl
  neB5 := by decide }

theorem q_repeat (s : ByteArray) (c : Nat) (w : World) (hc : c ≤ 9223372036854775807) (hlen : s.size * c ≤ 140737488355328) :
    Calls Tryz.prog 84 #[.string s, .int .i64 c] w fun e w' => e = .returned (.string ⟨(Lib.repeatL s.data.toList c).toArray⟩) ∧ Below w.heap.size w w' := Any.strings_Repeat lays105 laysX s c w hc hlen
theorem q_writeString (B b : Nat) (bs : List Value) (s : ByteArray) (w : World) (h : Lib.IsBuilder 76 5 B b bs w) (hlen : bs.length + s.size ≤ 140737488355328) (hBw : B ≤ w.heap.size) :
    Calls Tryz.prog 83 #[.pointer (some ⟨b, 0, none⟩), .string s] w fun e w' => e = .returned (.tuple #[.int .i64 s.size, .nilIface]) ∧ (Lib.BuilderAt 76 5 B b (.pointer (some ⟨b, 0, none⟩)) (bs ++ Lib.strCells s) w' ∧ Below B w w') := Any.Builder_WriteString (ρ := lays105_ren) { lays105 with } laysX B b bs s w h hlen hBw
theorem q_writeByte (B b : Nat) (bs : List Value) (c : Int) (w : World) (h : Lib.IsBuilder 76 5 B b bs w) (hlen : bs.length + 1 ≤ 140737488355328) (hBw : B ≤ w.heap.size) :
    Calls Tryz.prog 86 #[.pointer (some ⟨b, 0, none⟩), .int .u8 c] w fun e w' => e = .returned .nilIface ∧ (Lib.BuilderAt 76 5 B b (.pointer (some ⟨b, 0, none⟩)) (bs ++ [.int .u8 c]) w' ∧ Below B w w') := Any.Builder_WriteByte (ρ := lays105_ren) { lays105 with f167 := Tryz.func86.trans (congrArg some (by kernel_rfl)) } laysX B b bs c w h hlen hBw
theorem q_string (B b : Nat) (l : List UInt8) (w : World) (h : Lib.IsBuilder 76 5 B b (Lib.byteCells l) w) (hBw : B ≤ w.heap.size) :
    Calls Tryz.prog 39 #[.pointer (some ⟨b, 0, none⟩)] w fun e w' => e = .returned (.string ⟨l.toArray⟩) ∧ Below B w w' := Any.Builder_String_any (ρ := lays105_ren) { lays105 with } laysX B b l w h hBw
theorem q_itoa (i : Nat) (hi : i < 100) (w : World) : Calls Tryz.prog 88 #[.int .i64 i] w fun e w' => e = .returned (.string ⟨(Lib.decDigits i).toArray⟩) ∧ w' = w := Any.strconv_Itoa_small lays171 i hi w
theorem q_count (s : ByteArray) (c : UInt8) (w : World) : Calls Tryz.prog 201 #[.string s, .string ⟨#[c]⟩] w fun e w' => e = .returned (.int .i64 (Lib.countByte s.data.toList c)) ∧ w' = w := Any.strings_Count_one lays138 s c w
end Go.Proofs.YtnfdcfagdidmhaaGreatDoor
