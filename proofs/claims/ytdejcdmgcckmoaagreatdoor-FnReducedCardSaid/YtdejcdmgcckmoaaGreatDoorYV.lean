/- The library's sort at items and edges. -/
import Derived.Shelf.SlSortCmp.NoneTotal
import Derived.Test.YtdejcdmgcckmoaaGreatDoorProg
import Derived.Test.YtdejcdmgcckmoaaGreatDoorYU
namespace Go.Proofs
open Go.Shelf
def Tryz.sortItm_ren : Go.Shelf.Ren := ⟨fun | 6 => 61 | 15 => 103 | 14 => 106 | 28 => 146 | 29 => 147 | 20 => 155 | 21 => 156 | 22 => 157 | 23 => 158 | 24 => 159 | 25 => 160 | 26 => 161 | 27 => 162 | 46 => 185 | 47 => 174 | 48 => 175 | 49 => 186 | 50 => 187 | 57 => 219 | n => n, fun | 22 => 53 | 24 => 101 | 25 => 106 | 3 => 3 | 39 => 160 | 0 => 0 | 53 => 225 | 55 => 227 | 4 => 4 | 46 => 219 | 45 => 218 | 50 => 205 | 5 => 5 | 9 => 9 | 66 => 254 | 70 => 258 | 76 => 288 | 77 => 123 | n => n, fun | n => n⟩
theorem Tryz.sortItm : Go.Proofs.SlLaysF0.n6 Tryz.prog Tryz.sortItm_ren := {
  mixed := by kernel_rfl
  f6 := ⟨Tryz.f61.name, by decide, Tryz.func61.trans (congrArg some (by kernel_rfl))⟩
  f14 := ⟨Tryz.f106.name, by decide, Tryz.func106.trans (congrArg some (by kernel_rfl))⟩
  f15 := Tryz.func103.trans (congrArg some (by kernel_rfl))
  f20 := ⟨Tryz.f155.name, by decide, Tryz.func155.trans (congrArg some (by kernel_rfl))⟩
  f21 := ⟨Tryz.f156.name, by decide, Tryz.func156.trans (congrArg some (by kernel_rfl))⟩
  f22 := ⟨Tryz.f157.name, by decide, Tryz.func157.trans (congrArg some (by kernel_rfl))⟩
  f23 := ⟨Tryz.f158.name, by decide, Tryz.func158.trans (congrArg some (by kernel_rfl))⟩
  f24 := ⟨Tryz.f159.name, by decide, Tryz.func159.trans (congrArg some (by kernel_rfl))⟩
  f25 := ⟨Tryz.f160.name, by decide, Tryz.func160.trans (congrArg some (by kernel_rfl))⟩
  f26 := ⟨Tryz.f161.name, by decide, Tryz.func161.trans (congrArg some (by kernel_rfl))⟩
  f27 := ⟨Tryz.f162.name, by decide, Tryz.func162.trans (congrArg some (by kernel_rfl))⟩
  f28 := Tryz.func146.trans (congrArg some (by kernel_rfl))
  f29 := Tryz.func147.trans (congrArg some (by kernel_rfl))
  f46 := ⟨Tryz.f185.name, by decide, Tryz.func185.trans (congrArg some (by kernel_rfl))⟩
  f47 := Tryz.func174.trans (congrArg some (by kernel_rfl))
  f48 := Tryz.func175.trans (congrArg some (by kernel_rfl))
  f49 := ⟨Tryz.f186.name, by decide, Tryz.func186.trans (congrArg some (by kernel_rfl))⟩
  f50 := ⟨Tryz.f187.name, by decide, Tryz.func187.trans (congrArg some (by kernel_rfl))⟩
  f57 := ⟨Tryz.f219.name, by decide, Tryz.func219.trans (congrArg some (by kernel_rfl))⟩
  t0 := Tryz.underlying0
  a0 := Tryz.isAgg0
  z0 := Tryz.sizeOf0
  v0 := Tryz.zeroValue0
  t3 := Tryz.underlying3
  a3 := Tryz.isAgg3
  z3 := Tryz.sizeOf3
  v3 := Tryz.zeroValue3
  t4 := Tryz.underlying4
  a4 := Tryz.isAgg4
  z4 := Tryz.sizeOf4
  v4 := Tryz.zeroValue4
  t5 := Tryz.underlying5
  a5 := Tryz.isAgg5
  z5 := Tryz.sizeOf5
  v5 := Tryz.zeroValue5
  t9 := Tryz.underlying9
  a9 := Tryz.isAgg9
  z9 := Tryz.sizeOf9
  v9 := Tryz.zeroValue9
  t22 := Tryz.underlying53
  a22 := Tryz.isAgg53
  z22 := Tryz.sizeOf53
  v22 := Tryz.zeroValue53
  t25 := Tryz.underlying106
  a25 := Tryz.isAgg106
  z25 := Tryz.sizeOf106
  v25 := Tryz.zeroValue106
  t39 := Tryz.underlying160
  a39 := Tryz.isAgg160
  z39 := Tryz.sizeOf160
  v39 := Tryz.zeroValue160
  t45 := Tryz.underlying218
  a45 := Tryz.isAgg218
  z45 := Tryz.sizeOf218
  v45 := Tryz.zeroValue218
  t46 := Tryz.underlying219
  a46 := Tryz.isAgg219
  z46 := Tryz.sizeOf219
  v46 := Tryz.zeroValue219
  t50 := Tryz.underlying205
  a50 := Tryz.isAgg205
  z50 := Tryz.sizeOf205
  v50 := Tryz.zeroValue205
  t53 := Tryz.underlying225
  a53 := Tryz.isAgg225
  z53 := Tryz.sizeOf225
  v53 := Tryz.zeroValue225
  t55 := Tryz.underlying227
  a55 := Tryz.isAgg227
  z55 := Tryz.sizeOf227
  v55 := Tryz.zeroValue227
  t66 := Tryz.underlying254
  a66 := Tryz.isAgg254
  z66 := Tryz.sizeOf254
  v66 := Tryz.zeroValue254
  t70 := Tryz.underlying258
  a70 := Tryz.isAgg258
  z70 := Tryz.sizeOf258
  v70 := Tryz.zeroValue258
  t76 := Tryz.underlying288
  a76 := Tryz.isAgg288
  z76 := Tryz.sizeOf288
  v76 := Tryz.zeroValue288
  t77 := Tryz.underlying123
  a77 := Tryz.isAgg123
  z77 := Tryz.sizeOf123
  v77 := Tryz.zeroValue123 }
def Tryz.sortEdg_ren : Go.Shelf.Ren := ⟨fun | 6 => 109 | 15 => 103 | 14 => 163 | 28 => 146 | 29 => 147 | 20 => 188 | 21 => 189 | 22 => 190 | 23 => 191 | 24 => 192 | 25 => 193 | 26 => 194 | 27 => 195 | 46 => 220 | 47 => 174 | 48 => 175 | 49 => 221 | 50 => 222 | 57 => 235 | n => n, fun | 22 => 36 | 24 => 64 | 25 => 167 | 3 => 3 | 39 => 160 | 0 => 0 | 53 => 225 | 55 => 227 | 4 => 4 | 46 => 219 | 45 => 218 | 50 => 205 | 5 => 5 | 9 => 9 | 66 => 254 | 70 => 258 | 76 => 288 | 77 => 123 | n => n, fun | n => n⟩
theorem Tryz.sortEdg : Go.Proofs.SlLaysF0.n6 Tryz.prog Tryz.sortEdg_ren := {
  mixed := by kernel_rfl
  f6 := ⟨Tryz.f109.name, by decide, Tryz.func109.trans (congrArg some (by kernel_rfl))⟩
  f14 := ⟨Tryz.f163.name, by decide, Tryz.func163.trans (congrArg some (by kernel_rfl))⟩
  f15 := Tryz.func103.trans (congrArg some (by kernel_rfl))
  f20 := ⟨Tryz.f188.name, by decide, Tryz.func188.trans (congrArg some (by kernel_rfl))⟩
  f21 := ⟨Tryz.f189.name, by decide, Tryz.func189.trans (congrArg some (by kernel_rfl))⟩
  f22 := ⟨Tryz.f190.name, by decide, Tryz.func190.trans (congrArg some (by kernel_rfl))⟩
  f23 := ⟨Tryz.f191.name, by decide, Tryz.func191.trans (congrArg some (by kernel_rfl))⟩
  f24 := ⟨Tryz.f192.name, by decide, Tryz.func192.trans (congrArg some (by kernel_rfl))⟩
  f25 := ⟨Tryz.f193.name, by decide, Tryz.func193.trans (congrArg some (by kernel_rfl))⟩
  f26 := ⟨Tryz.f194.name, by decide, Tryz.func194.trans (congrArg some (by kernel_rfl))⟩
  f27 := ⟨Tryz.f195.name, by decide, Tryz.func195.trans (congrArg some (by kernel_rfl))⟩
  f28 := Tryz.func146.trans (congrArg some (by kernel_rfl))
  f29 := Tryz.func147.trans (congrArg some (by kernel_rfl))
  f46 := ⟨Tryz.f220.name, by decide, Tryz.func220.trans (congrArg some (by kernel_rfl))⟩
  f47 := Tryz.func174.trans (congrArg some (by kernel_rfl))
  f48 := Tryz.func175.trans (congrArg some (by kernel_rfl))
  f49 := ⟨Tryz.f221.name, by decide, Tryz.func221.trans (congrArg some (by kernel_rfl))⟩
  f50 := ⟨Tryz.f222.name, by decide, Tryz.func222.trans (congrArg some (by kernel_rfl))⟩
  f57 := ⟨Tryz.f235.name, by decide, Tryz.func235.trans (congrArg some (by kernel_rfl))⟩
  t0 := Tryz.underlying0
  a0 := Tryz.isAgg0
  z0 := Tryz.sizeOf0
  v0 := Tryz.zeroValue0
  t3 := Tryz.underlying3
  a3 := Tryz.isAgg3
  z3 := Tryz.sizeOf3
  v3 := Tryz.zeroValue3
  t4 := Tryz.underlying4
  a4 := Tryz.isAgg4
  z4 := Tryz.sizeOf4
  v4 := Tryz.zeroValue4
  t5 := Tryz.underlying5
  a5 := Tryz.isAgg5
  z5 := Tryz.sizeOf5
  v5 := Tryz.zeroValue5
  t9 := Tryz.underlying9
  a9 := Tryz.isAgg9
  z9 := Tryz.sizeOf9
  v9 := Tryz.zeroValue9
  t22 := Tryz.underlying36
  a22 := Tryz.isAgg36
  z22 := Tryz.sizeOf36
  v22 := Tryz.zeroValue36
  t25 := Tryz.underlying167
  a25 := Tryz.isAgg167
  z25 := Tryz.sizeOf167
  v25 := Tryz.zeroValue167
  t39 := Tryz.underlying160
  a39 := Tryz.isAgg160
  z39 := Tryz.sizeOf160
  v39 := Tryz.zeroValue160
  t45 := Tryz.underlying218
  a45 := Tryz.isAgg218
  z45 := Tryz.sizeOf218
  v45 := Tryz.zeroValue218
  t46 := Tryz.underlying219
  a46 := Tryz.isAgg219
  z46 := Tryz.sizeOf219
  v46 := Tryz.zeroValue219
  t50 := Tryz.underlying205
  a50 := Tryz.isAgg205
  z50 := Tryz.sizeOf205
  v50 := Tryz.zeroValue205
  t53 := Tryz.underlying225
  a53 := Tryz.isAgg225
  z53 := Tryz.sizeOf225
  v53 := Tryz.zeroValue225
  t55 := Tryz.underlying227
  a55 := Tryz.isAgg227
  z55 := Tryz.sizeOf227
  v55 := Tryz.zeroValue227
  t66 := Tryz.underlying254
  a66 := Tryz.isAgg254
  z66 := Tryz.sizeOf254
  v66 := Tryz.zeroValue254
  t70 := Tryz.underlying258
  a70 := Tryz.isAgg258
  z70 := Tryz.sizeOf258
  v70 := Tryz.zeroValue258
  t76 := Tryz.underlying288
  a76 := Tryz.isAgg288
  z76 := Tryz.sizeOf288
  v76 := Tryz.zeroValue288
  t77 := Tryz.underlying123
  a77 := Tryz.isAgg123
  z77 := Tryz.sizeOf123
  v77 := Tryz.zeroValue123 }
def Tryz.sortStc_ren : Go.Shelf.Ren := ⟨fun | 6 => 116 | 15 => 103 | 14 => 165 | 28 => 146 | 29 => 147 | 20 => 196 | 21 => 197 | 22 => 198 | 23 => 199 | 24 => 200 | 25 => 201 | 26 => 202 | 27 => 203 | 46 => 223 | 47 => 174 | 48 => 175 | 49 => 224 | 50 => 225 | 57 => 236 | n => n, fun | 22 => 24 | 24 => 9 | 25 => 105 | 3 => 3 | 39 => 160 | 0 => 0 | 53 => 225 | 55 => 227 | 4 => 4 | 46 => 219 | 45 => 218 | 50 => 205 | 5 => 5 | 9 => 9 | 66 => 254 | 70 => 258 | 76 => 288 | 77 => 123 | n => n, fun | n => n⟩
theorem Tryz.sortStc : Go.Proofs.SlLaysF0.n6 Tryz.prog Tryz.sortStc_ren := {
  mixed := by kernel_rfl
  f6 := ⟨Tryz.f116.name, by decide, Tryz.func116.trans (congrArg some (by kernel_rfl))⟩
  f14 := ⟨Tryz.f165.name, by decide, Tryz.func165.trans (congrArg some (by kernel_rfl))⟩
  f15 := Tryz.func103.trans (congrArg some (by kernel_rfl))
  f20 := ⟨Tryz.f196.name, by decide, Tryz.func196.trans (congrArg some (by kernel_rfl))⟩
  f21 := ⟨Tryz.f197.name, by decide, Tryz.func197.trans (congrArg some (by kernel_rfl))⟩
  f22 := ⟨Tryz.f198.name, by decide, Tryz.func198.trans (congrArg some (by kernel_rfl))⟩
  f23 := ⟨Tryz.f199.name, by decide, Tryz.func199.trans (congrArg some (by kernel_rfl))⟩
  f24 := ⟨Tryz.f200.name, by decide, Tryz.func200.trans (congrArg some (by kernel_rfl))⟩
  f25 := ⟨Tryz.f201.name, by decide, Tryz.func201.trans (congrArg some (by kernel_rfl))⟩
  f26 := ⟨Tryz.f202.name, by decide, Tryz.func202.trans (congrArg some (by kernel_rfl))⟩
  f27 := ⟨Tryz.f203.name, by decide, Tryz.func203.trans (congrArg some (by kernel_rfl))⟩
  f28 := Tryz.func146.trans (congrArg some (by kernel_rfl))
  f29 := Tryz.func147.trans (congrArg some (by kernel_rfl))
  f46 := ⟨Tryz.f223.name, by decide, Tryz.func223.trans (congrArg some (by kernel_rfl))⟩
  f47 := Tryz.func174.trans (congrArg some (by kernel_rfl))
  f48 := Tryz.func175.trans (congrArg some (by kernel_rfl))
  f49 := ⟨Tryz.f224.name, by decide, Tryz.func224.trans (congrArg some (by kernel_rfl))⟩
  f50 := ⟨Tryz.f225.name, by decide, Tryz.func225.trans (congrArg some (by kernel_rfl))⟩
  f57 := ⟨Tryz.f236.name, by decide, Tryz.func236.trans (congrArg some (by kernel_rfl))⟩
  t0 := Tryz.underlying0
  a0 := Tryz.isAgg0
  z0 := Tryz.sizeOf0
  v0 := Tryz.zeroValue0
  t3 := Tryz.underlying3
  a3 := Tryz.isAgg3
  z3 := Tryz.sizeOf3
  v3 := Tryz.zeroValue3
  t4 := Tryz.underlying4
  a4 := Tryz.isAgg4
  z4 := Tryz.sizeOf4
  v4 := Tryz.zeroValue4
  t5 := Tryz.underlying5
  a5 := Tryz.isAgg5
  z5 := Tryz.sizeOf5
  v5 := Tryz.zeroValue5
  t9 := Tryz.underlying9
  a9 := Tryz.isAgg9
  z9 := Tryz.sizeOf9
  v9 := Tryz.zeroValue9
  t22 := Tryz.underlying24
  a22 := Tryz.isAgg24
  z22 := Tryz.sizeOf24
  v22 := Tryz.zeroValue24
  t25 := Tryz.underlying105
  a25 := Tryz.isAgg105
  z25 := Tryz.sizeOf105
  v25 := Tryz.zeroValue105
  t39 := Tryz.underlying160
  a39 := Tryz.isAgg160
  z39 := Tryz.sizeOf160
  v39 := Tryz.zeroValue160
  t45 := Tryz.underlying218
  a45 := Tryz.isAgg218
  z45 := Tryz.sizeOf218
  v45 := Tryz.zeroValue218
  t46 := Tryz.underlying219
  a46 := Tryz.isAgg219
  z46 := Tryz.sizeOf219
  v46 := Tryz.zeroValue219
  t50 := Tryz.underlying205
  a50 := Tryz.isAgg205
  z50 := Tryz.sizeOf205
  v50 := Tryz.zeroValue205
  t53 := Tryz.underlying225
  a53 := Tryz.isAgg225
  z53 := Tryz.sizeOf225
  v53 := Tryz.zeroValue225
  t55 := Tryz.underlying227
  a55 := Tryz.isAgg227
  z55 := Tryz.sizeOf227
  v55 := Tryz.zeroValue227
  t66 := Tryz.underlying254
  a66 := Tryz.isAgg254
  z66 := Tryz.sizeOf254
  v66 := Tryz.zeroValue254
  t70 := Tryz.underlying258
  a70 := Tryz.isAgg258
  z70 := Tryz.sizeOf258
  v70 := Tryz.zeroValue258
  t76 := Tryz.underlying288
  a76 := Tryz.isAgg288
  z76 := Tryz.sizeOf288
  v76 := Tryz.zeroValue288
  t77 := Tryz.underlying123
  a77 := Tryz.isAgg123
  z77 := Tryz.sizeOf123
  v77 := Tryz.zeroValue123 }
def Tryz.sortPai_ren : Go.Shelf.Ren := ⟨fun | 6 => 125 | 15 => 103 | 14 => 169 | 28 => 146 | 29 => 147 | 20 => 204 | 21 => 205 | 22 => 206 | 23 => 207 | 24 => 208 | 25 => 209 | 26 => 210 | 27 => 211 | 46 => 226 | 47 => 174 | 48 => 175 | 49 => 227 | 50 => 228 | 57 => 237 | n => n, fun | 22 => 187 | 24 => 188 | 25 => 190 | 3 => 3 | 39 => 160 | 0 => 0 | 53 => 225 | 55 => 227 | 4 => 4 | 46 => 219 | 45 => 218 | 50 => 205 | 5 => 5 | 9 => 9 | 66 => 254 | 70 => 258 | 76 => 288 | 77 => 123 | n => n, fun | n => n⟩
theorem Tryz.sortPai : Go.Proofs.SlLaysF0.n6 Tryz.prog Tryz.sortPai_ren := {
  mixed := by kernel_rfl
  f6 := ⟨Tryz.f125.name, by decide, Tryz.func125.trans (congrArg some (by kernel_rfl))⟩
  f14 := ⟨Tryz.f169.name, by decide, Tryz.func169.trans (congrArg some (by kernel_rfl))⟩
  f15 := Tryz.func103.trans (congrArg some (by kernel_rfl))
  f20 := ⟨Tryz.f204.name, by decide, Tryz.func204.trans (congrArg some (by kernel_rfl))⟩
  f21 := ⟨Tryz.f205.name, by decide, Tryz.func205.trans (congrArg some (by kernel_rfl))⟩
  f22 := ⟨Tryz.f206.name, by decide, Tryz.func206.trans (congrArg some (by kernel_rfl))⟩
  f23 := ⟨Tryz.f207.name, by decide, Tryz.func207.trans (congrArg some (by kernel_rfl))⟩
  f24 := ⟨Tryz.f208.name, by decide, Tryz.func208.trans (congrArg some (by kernel_rfl))⟩
  f25 := ⟨Tryz.f209.name, by decide, Tryz.func209.trans (congrArg some (by kernel_rfl))⟩
  f26 := ⟨Tryz.f210.name, by decide, Tryz.func210.trans (congrArg some (by kernel_rfl))⟩
  f27 := ⟨Tryz.f211.name, by decide, Tryz.func211.trans (congrArg some (by kernel_rfl))⟩
  f28 := Tryz.func146.trans (congrArg some (by kernel_rfl))
  f29 := Tryz.func147.trans (congrArg some (by kernel_rfl))
  f46 := ⟨Tryz.f226.name, by decide, Tryz.func226.trans (congrArg some (by kernel_rfl))⟩
  f47 := Tryz.func174.trans (congrArg some (by kernel_rfl))
  f48 := Tryz.func175.trans (congrArg some (by kernel_rfl))
  f49 := ⟨Tryz.f227.name, by decide, Tryz.func227.trans (congrArg some (by kernel_rfl))⟩
  f50 := ⟨Tryz.f228.name, by decide, Tryz.func228.trans (congrArg some (by kernel_rfl))⟩
  f57 := ⟨Tryz.f237.name, by decide, Tryz.func237.trans (congrArg some (by kernel_rfl))⟩
  t0 := Tryz.underlying0
  a0 := Tryz.isAgg0
  z0 := Tryz.sizeOf0
  v0 := Tryz.zeroValue0
  t3 := Tryz.underlying3
  a3 := Tryz.isAgg3
  z3 := Tryz.sizeOf3
  v3 := Tryz.zeroValue3
  t4 := Tryz.underlying4
  a4 := Tryz.isAgg4
  z4 := Tryz.sizeOf4
  v4 := Tryz.zeroValue4
  t5 := Tryz.underlying5
  a5 := Tryz.isAgg5
  z5 := Tryz.sizeOf5
  v5 := Tryz.zeroValue5
  t9 := Tryz.underlying9
  a9 := Tryz.isAgg9
  z9 := Tryz.sizeOf9
  v9 := Tryz.zeroValue9
  t22 := Tryz.underlying187
  a22 := Tryz.isAgg187
  z22 := Tryz.sizeOf187
  v22 := Tryz.zeroValue187
  t25 := Tryz.underlying190
  a25 := Tryz.isAgg190
  z25 := Tryz.sizeOf190
  v25 := Tryz.zeroValue190
  t39 := Tryz.underlying160
  a39 := Tryz.isAgg160
  z39 := Tryz.sizeOf160
  v39 := Tryz.zeroValue160
  t45 := Tryz.underlying218
  a45 := Tryz.isAgg218
  z45 := Tryz.sizeOf218
  v45 := Tryz.zeroValue218
  t46 := Tryz.underlying219
  a46 := Tryz.isAgg219
  z46 := Tryz.sizeOf219
  v46 := Tryz.zeroValue219
  t50 := Tryz.underlying205
  a50 := Tryz.isAgg205
  z50 := Tryz.sizeOf205
  v50 := Tryz.zeroValue205
  t53 := Tryz.underlying225
  a53 := Tryz.isAgg225
  z53 := Tryz.sizeOf225
  v53 := Tryz.zeroValue225
  t55 := Tryz.underlying227
  a55 := Tryz.isAgg227
  z55 := Tryz.sizeOf227
  v55 := Tryz.zeroValue227
  t66 := Tryz.underlying254
  a66 := Tryz.isAgg254
  z66 := Tryz.sizeOf254
  v66 := Tryz.zeroValue254
  t70 := Tryz.underlying258
  a70 := Tryz.isAgg258
  z70 := Tryz.sizeOf258
  v70 := Tryz.zeroValue258
  t76 := Tryz.underlying288
  a76 := Tryz.isAgg288
  z76 := Tryz.sizeOf288
  v76 := Tryz.zeroValue288
  t77 := Tryz.underlying123
  a77 := Tryz.isAgg123
  z77 := Tryz.sizeOf123
  v77 := Tryz.zeroValue123 }
end Go.Proofs
namespace Go.Proofs.YtdejcdmgcckmoaaGreatDoor
open Go.RowKit Go.Sort Go.Lib Lr

theorem ltOf_cmp {α : Type} (c : α → α → Int) (x y : α) : ltOf c x y = decide (c x y < 0) := rfl
theorem ord_swo {α : Type} {c : α → α → Int} (h : Ord3 c) : SWO (ltOf c) := by
  refine swo_of_total (fun x => ?_) (fun x y z => ?_) (fun x y => ?_) <;> simp only [ltOf_cmp, decide_eq_false_iff_not, decide_eq_true_eq]
  · exact h.irr x
  · exact h.trans x y z
  · exact h.tot x y
theorem ord_totF {α : Type} {c : α → α → Int} (h : Ord3 c) (x y : α) (h1 : ltOf c x y = false) (h2 : ltOf c y x = false) : x = y := by
  simp only [ltOf_cmp, decide_eq_false_iff_not] at h1 h2
  exact h.tot x y h1 h2
theorem cmpLays_of {α : Type} [Inhabited α] {g : Nat} {enc : α → List Value} {cf : α → α → Int} (h : ∀ x y W, Calls Tryz.prog g #[.agg (enc x).toArray, .agg (enc y).toArray] W fun e w' => e = .returned (.int .i64 (cf x y)) ∧ ∃ q os', w' = grow (W.drewN q) os') (k blk off size : Nat) (w : World) :
    CmpLays Tryz.prog g #[] enc k cf blk off size w := fun _ _ _ _ x y => h x y _

instance : Inhabited Itm := ⟨⟨none, 0, []⟩⟩
/-- Items sorted by the package's test. -/
theorem SortItm {w : World} {B : Nat} {v : Value} {L : List Itm} (h : Own3 itm3 101 w B v L) (hn : L.Nodup) (hl : L.length ≤ 1000000) :
    Calls Tryz.prog 61 #[v, .func (.func 62) #[] #[]] w fun e w' => e = .returned (.tuple #[]) ∧ ∃ L' : List Itm, L'.Perm L ∧ (L'.Pairwise fun x y => cmpItm x y < 0) ∧ Own3 itm3 101 w' B v L' ∧ w.grownBy w' v.ownBlock := by
  by_cases h0 : L.length = 0
  · obtain rfl : L = [] := List.eq_nil_of_length_eq_zero h0
    obtain ⟨a, c, rfl⟩ := owns_slice h
    refine (AnyF.slices_SortFunc_none Tryz.sortItm a c _ w).mono ?_
    rintro e w' ⟨rfl, rfl⟩
    exact ⟨rfl, [], List.Perm.refl _, List.Pairwise.nil, h, (New.refl _).grown _⟩
  · rcases h.2 with ⟨_, hz⟩ | ⟨g, cap, cur, rfl, hbase, hb, h1, h2, h3, h4⟩
    · omega
    have hlt : g < w.heap.size := lt_of_block hb
    have eg : ∀ args w, (callFunc 62 args).run Tryz.prog w = .ok (.enter 62 args) w := enters_of Tryz.func62 (by kernel_rfl) rfl
    refine (AnyQ.slices_SortFunc Tryz.sortItm 3 Tryz.isAgg101 Tryz.sizeOf101 (enc3 itm3) (enc3_len itm3) (fun x v hv => by simp [enc3, itm3] at hv; rcases hv with rfl | rfl | rfl <;> rfl) cmpItm (ord_swo ord_itm) 62 #[] g 0 cap L.toArray w eg (cmpLays_of (fun x y W => cmp62 _ _ _ _ _ _ W) 3 g 0 _ w) (holdsK_of_own (enc3_len itm3) h) hlt (by simp; omega)).mono ?_
    rintro e w' ⟨rfl, d', n, os, hp, hs, rfl⟩
    obtain ⟨L', rfl, k1, k2⟩ := sorted_list (ord_totF ord_itm) hp hs hn
    obtain ⟨k3, k4⟩ := ownsRow_sortedK (m := n) (os := os) (enc3_len itm3) k1.length_eq h
    refine ⟨rfl, L', k1, k2.imp fun hh => by simpa [ltOf_cmp] using hh, ?_, k4⟩
    unfold Own3
    rw [k1.length_eq]
    exact k3
/-- Edges sorted. -/
theorem SortEdg {w : World} {B : Nat} {v : Value} {L : List Edg} (h : Own3 edg3 64 w B v L) (hn : L.Nodup) (hl : L.length ≤ 1000000) :
    Calls Tryz.prog 109 #[v, .func (.func 110) #[] #[]] w fun e w' => e = .returned (.tuple #[]) ∧ ∃ L' : List Edg, L'.Perm L ∧ (L'.Pairwise fun x y => cmpEdg x y < 0) ∧ Own3 edg3 64 w' B v L' ∧ w.grownBy w' v.ownBlock := by
  by_cases h0 : L.length = 0
  · obtain rfl : L = [] := List.eq_nil_of_length_eq_zero h0
    obtain ⟨a, c, rfl⟩ := owns_slice h
    refine (AnyF.slices_SortFunc_none Tryz.sortEdg a c _ w).mono ?_
    rintro e w' ⟨rfl, rfl⟩
    exact ⟨rfl, [], List.Perm.refl _, List.Pairwise.nil, h, (New.refl _).grown _⟩
  · rcases h.2 with ⟨_, hz⟩ | ⟨g, cap, cur, rfl, hbase, hb, h1, h2, h3, h4⟩
    · omega
    have hlt : g < w.heap.size := lt_of_block hb
    have eg : ∀ args w, (callFunc 110 args).run Tryz.prog w = .ok (.enter 110 args) w := enters_of Tryz.func110 (by kernel_rfl) rfl
    refine (AnyQ.slices_SortFunc Tryz.sortEdg 3 Tryz.isAgg64 Tryz.sizeOf64 (enc3 edg3) (enc3_len edg3) (fun x v hv => by simp [enc3, edg3] at hv; rcases hv with rfl | rfl | rfl <;> rfl) cmpEdg (ord_swo ord_edg) 110 #[] g 0 cap L.toArray w eg (cmpLays_of (fun x y W => cmp110 _ _ _ _ _ _ W) 3 g 0 _ w) (holdsK_of_own (enc3_len edg3) h) hlt (by simp; omega)).mono ?_
    rintro e w' ⟨rfl, d', n, os, hp, hs, rfl⟩
    obtain ⟨L', rfl, k1, k2⟩ := sorted_list (ord_totF ord_edg) hp hs hn
    obtain ⟨k3, k4⟩ := ownsRow_sortedK (m := n) (os := os) (enc3_len edg3) k1.length_eq h
    refine ⟨rfl, L', k1, k2.imp fun hh => by simpa [ltOf_cmp] using hh, ?_, k4⟩
    unfold Own3
    rw [k1.length_eq]
    exact k3

/-! ### The reference's own test: at items that are not great -/
def SmallI (i : Itm) : Prop := prodI i.prod ≤ 100000 ∧ i.dot ≤ 100000
abbrev BItm := { i : Itm // SmallI i }
instance : Inhabited BItm := ⟨⟨⟨none, 0, []⟩, by constructor <;> simp [prodI]⟩⟩
theorem prodI_ge (q : Option Nat) : -1 ≤ prodI q := by cases q with
  | none => exact Int.le_refl _
  | some n => simp only [prodI]; omega
theorem lessZ_I (x y : Itm) : lessZ (prodI x.prod) x.dot x.look (prodI y.prod) y.dot y.look = lessI x y := rfl
def lessB (x y : BItm) : Int := lessI x.1 y.1
theorem lessB_lt (x y : BItm) : ltOf lessB x y = ltOf (fun a b : BItm => cmpItm a.1 b.1) x y := by
  simp only [ltOf_cmp]
  exact decide_eq_decide.2 (less_iff x.1 y.1)
theorem ord_B : Ord3 fun a b : BItm => cmpItm a.1 b.1 where
  anti x y := ord_itm.anti x.1 y.1
  trans x y z := ord_itm.trans x.1 y.1 z.1
  zero x y := (ord_itm.zero x.1 y.1).trans Subtype.ext_iff.symm
def bitm3 (x : BItm) : Value × Value × Value := itm3 x.1
theorem SortLess {w : World} {B : Nat} {v : Value} {L : List Itm} (h : Own3 itm3 101 w B v L) (hn : L.Nodup) (hl : L.length ≤ 1000000) (hb : ∀ i ∈ L, SmallI i) :
    Calls Tryz.prog 61 #[v, .func (.func 114) #[] #[]] w fun e w' => e = .returned (.tuple #[]) ∧ ∃ L' : List Itm, L'.Perm L ∧ (L'.Pairwise fun x y => cmpItm x y < 0) ∧ Own3 itm3 101 w' B v L' ∧ w.grownBy w' v.ownBlock := by
  by_cases h0 : L.length = 0
  · obtain rfl : L = [] := List.eq_nil_of_length_eq_zero h0
    obtain ⟨a, c, rfl⟩ := owns_slice h
    refine (AnyF.slices_SortFunc_none Tryz.sortItm a c _ w).mono ?_
    rintro e w' ⟨rfl, rfl⟩
    exact ⟨rfl, [], List.Perm.refl _, List.Pairwise.nil, h, (New.refl _).grown _⟩
  · obtain ⟨M, rfl⟩ : ∃ M : List BItm, L = M.map (·.1) := ⟨L.pmap Subtype.mk hb, by rw [List.map_pmap]; simp⟩
    have e3 : ∀ K : List BItm, (K.map (·.1)).flatMap (enc3 itm3) = K.flatMap (enc3 bitm3) := fun K => by rw [List.flatMap_map]; rfl
    unfold Own3 at h
    rw [List.length_map, e3] at h
    rw [List.length_map] at h0 hl
    have hn' : M.Nodup := by
      unfold List.Nodup at hn ⊢
      rw [List.pairwise_map] at hn
      exact hn.imp fun hh e => hh (by rw [e])
    rcases h.2 with ⟨_, hz⟩ | ⟨g, cap, cur, rfl, hbase, hb2, h1, h2, h3, h4⟩
    · omega
    have hlt : g < w.heap.size := lt_of_block hb2
    have eg : ∀ args w, (callFunc 114 args).run Tryz.prog w = .ok (.enter 114 args) w := enters_of Tryz.func114 (by kernel_rfl) rfl
    have hO : SWO (ltOf lessB) := by
      have : ltOf lessB = ltOf fun a b : BItm => cmpItm a.1 b.1 := by funext x y; exact lessB_lt x y
      rw [this]; exact ord_swo ord_B
    refine (AnyQ.slices_SortFunc Tryz.sortItm 3 Tryz.isAgg101 Tryz.sizeOf101 (enc3 bitm3) (enc3_len bitm3) (fun x v hv => by simp [enc3, bitm3, itm3] at hv; rcases hv with rfl | rfl | rfl <;> rfl) lessB hO 114 #[] g 0 cap M.toArray w eg
      (cmpLays_of (fun x y W => less114 _ _ _ _ _ _ ⟨prodI_ge _, x.2.1⟩ ⟨prodI_ge _, y.2.1⟩ ⟨by omega, by have := x.2.2; omega⟩ ⟨by omega, by have := y.2.2; omega⟩ W) 3 g 0 _ w) (holdsK_of_own (enc3_len bitm3) h) hlt (by simp; omega)).mono ?_
    rintro e w' ⟨rfl, d', n, os, hp, hs, rfl⟩
    have hs' : SortedIn (ltOf fun a b : BItm => cmpItm a.1 b.1) 0 M.toArray.size d' := fun i j a b c => by rw [← lessB_lt]; exact hs i j a b c
    obtain ⟨L', rfl, k1, k2⟩ := sorted_list (ord_totF ord_B) hp hs' hn'
    obtain ⟨k3, k4⟩ := ownsRow_sortedK (m := n) (os := os) (enc3_len bitm3) k1.length_eq h
    refine ⟨rfl, L'.map (·.1), k1.map _, ?_, ?_, k4⟩
    · rw [List.pairwise_map]
      exact k2.imp fun hh => by simpa [ltOf_cmp] using hh
    · unfold Own3
      rw [List.length_map, e3, k1.length_eq]
      exact k3
end Go.Proofs.YtdejcdmgcckmoaaGreatDoor
